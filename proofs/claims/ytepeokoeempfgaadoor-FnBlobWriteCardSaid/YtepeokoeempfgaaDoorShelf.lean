/-
  DERIVED: THE SHELF's CONTRACTS AT THIS DUMP, IN PLAIN WORDS (tools/lay-plain.mjs out of 'TrydShelf.lean', which tools/lay-shelf.mjs wrote): THE SAME DECLARATIONS UNDER THE SAME NAMES: 'import', 'namespace', 'open', 'def', 'theorem' AND NOTHING ELSE: no command of the shelf's: FOR A HAND-IN. Each laying: the table of numbers ('.._ren') and one theorem, a field a fact of the dump's own or the kernel's comparison; each contract: ONE APPLICATION.
-/
import Derived.Shelf.Strings.Builder1
import Derived.Shelf.Strings.Builder2
import Derived.Shelf.Strings.OnBuilder
import Derived.Shelf.Small.Utf8
import Derived.Shelf.Strings.BuilderF
import Derived.Shelf.Strings.BuilderK
import Derived.Shelf.Strings.BuilderRune
import Derived.Shelf.Strconv.Itoa0
import Derived.Shelf.Strconv.Itoa1
import Derived.Shelf.LaysM
import Derived.Shelf.Strconv.Itoa2
import Derived.Shelf.Strconv.Itoa3
import Derived.Shelf.Bytes.Len
import Derived.Shelf.Bytes.TryGrow
import Derived.Shelf.Bytes.GrowSliceCatch
import Derived.Shelf.Bytes.GrowSlice
import Derived.Shelf.Bytes.String
import Derived.Shelf.Bytes.GrowRow0Own
import Derived.Shelf.Bytes.GrowRowOwn
import Derived.Shelf.Bytes.GrowNilOwn
import Derived.Shelf.Bytes.GrowOwn
import Derived.Shelf.Bytes.WriteAny
import Derived.Shelf.Strconv.AppendUint10
import Derived.Shelf.Strconv.AppendInt10
import Derived.Shelf.Strconv.AppendIntPublic10
import Derived.Shelf.Unicode.Latin
import Derived.Shelf.Unicode.Decode
import Derived.Shelf.Unicode.DecodeSlow
import Derived.Shelf.Unicode.DecodeAny
import Derived.Shelf.Unicode.CaseLookup
import Derived.Shelf.Unicode.CaseConvert
import Derived.Shelf.Unicode.CaseTo
import Derived.Shelf.Unicode.CaseLaid
import Derived.Shelf.Strings.MapAny
import Derived.Shelf.Strings.CaseAny
import Derived.Test.YtepeokoeempfgaaDoorProg
namespace Go.Proofs
open Go.Shelf
def Tryd.lays170_ren : Go.Shelf.Ren := ⟨fun | 170 => 152 | n => n, fun | 70 => 155 | 3 => 3 | 0 => 0 | 72 => 157 | 37 => 50 | 5 => 5 | n => n, fun | n => n⟩
theorem Tryd.lays170 : Go.Proofs.Lays.n170 Tryd.prog Tryd.lays170_ren := {
  mixed := by kernel_rfl
  f170 := Tryd.func152.trans (congrArg some (by kernel_rfl))
  t0 := Tryd.underlying0
  a0 := Tryd.isAgg0
  z0 := Tryd.sizeOf0
  v0 := Tryd.zeroValue0
  t3 := Tryd.underlying3
  a3 := Tryd.isAgg3
  z3 := Tryd.sizeOf3
  v3 := Tryd.zeroValue3
  t37 := Tryd.underlying50
  a37 := Tryd.isAgg50
  z37 := Tryd.sizeOf50
  v37 := Tryd.zeroValue50
  t70 := Tryd.underlying155
  a70 := Tryd.isAgg155
  z70 := Tryd.sizeOf155
  v70 := Tryd.zeroValue155
  t72 := Tryd.underlying157
  a72 := Tryd.isAgg157
  z72 := Tryd.sizeOf157
  v72 := Tryd.zeroValue157 }
open Go.RowKit in
/-- (*strings.Builder).Len: "Len returns the number of accumulated bytes; b.Len() == len(b.String()).": the world is as it was. (LAID: no walk: one application.) -/
theorem Tryd.Builder_Len (B b : Nat) (bs : List Value) (w : World) (h : Lib.IsBuilder 157 5 B b bs w) :
    Calls Tryd.prog 152 #[.pointer (some ⟨b, 0, none⟩)] w fun e w' => e = .returned (.int .i64 bs.length) ∧ w' = w := Any.Builder_Len Tryd.lays170 B b bs w h
def Tryd.lays169_ren : Go.Shelf.Ren := ⟨fun | 169 => 66 | n => n, fun | 70 => 155 | 9 => 9 | 0 => 0 | 72 => 157 | 37 => 50 | 127 => 179 | 3 => 3 | 5 => 5 | n => n, fun | n => n⟩
theorem Tryd.lays169 : Go.Proofs.Lays.n169 Tryd.prog Tryd.lays169_ren := {
  mixed := by kernel_rfl
  f169 := Tryd.func66.trans (congrArg some (by kernel_rfl))
  t0 := Tryd.underlying0
  a0 := Tryd.isAgg0
  z0 := Tryd.sizeOf0
  v0 := Tryd.zeroValue0
  t3 := Tryd.underlying3
  a3 := Tryd.isAgg3
  z3 := Tryd.sizeOf3
  v3 := Tryd.zeroValue3
  t9 := Tryd.underlying9
  a9 := Tryd.isAgg9
  z9 := Tryd.sizeOf9
  v9 := Tryd.zeroValue9
  t37 := Tryd.underlying50
  a37 := Tryd.isAgg50
  z37 := Tryd.sizeOf50
  v37 := Tryd.zeroValue50
  t70 := Tryd.underlying155
  a70 := Tryd.isAgg155
  z70 := Tryd.sizeOf155
  v70 := Tryd.zeroValue155
  t72 := Tryd.underlying157
  a72 := Tryd.isAgg157
  z72 := Tryd.sizeOf157
  v72 := Tryd.zeroValue157
  t127 := Tryd.underlying179
  a127 := Tryd.isAgg179
  z127 := Tryd.sizeOf179
  v127 := Tryd.zeroValue179 }
theorem Tryd.Builder_Extra_169 : Builder.Extra Tryd.prog Tryd.lays169_ren := {
  sizeBuilder := by kernel_rfl
  liesBuilder := by kernel_rfl
  t5 := Tryd.underlying5
  a5 := Tryd.isAgg5
  z5 := Tryd.sizeOf5
  v5 := Tryd.zeroValue5
  infoByte := by kernel_rfl
  cellsByte := by kernel_rfl
  sizeByte := by kernel_rfl
  neB5 := by decide }
open Go.RowKit in
/-- (*strings.Builder).String: "String returns the accumulated string.": OF A BUILDER THAT HOLDS AT LEAST ONE BYTE. ✋ THE MODEL FREEZES THOSE BYTES IN THE BUFFER (unsafe.String): a later write INTO them ends the model's run without an answer; a later append BEHIND them goes on. The statement's order of evaluation is drawn: one draw. (LAID: no walk: one application.) -/
theorem Tryd.Builder_String (B b : Nat) (l : List UInt8) (w : World) (h : Lib.IsBuilder 157 5 B b (Lib.byteCells l) w) (h0 : l ≠ []) :
    Calls Tryd.prog 66 #[.pointer (some ⟨b, 0, none⟩)] w fun e w' => e = .returned (.string ⟨l.toArray⟩) ∧ Below B w w' := Any.Builder_String Tryd.lays169 Tryd.Builder_Extra_169 B b l w h h0
open Go.RowKit in
/-- (*strings.Builder).String OF A BUILDER THAT HOLDS NO BYTE: the empty string. (Its buffer is nil, or a row of which it has taken nothing yet; where that row has NO capacity the model lays one new block for unsafe.SliceData's 'some address'.) One draw. (LAID: no walk: one application.) -/
theorem Tryd.Builder_String_empty (B b : Nat) (w : World) (h : Lib.IsBuilder 157 5 B b [] w) (hBw : B ≤ w.heap.size) :
    Calls Tryd.prog 66 #[.pointer (some ⟨b, 0, none⟩)] w fun e w' => e = .returned (.string ⟨#[]⟩) ∧ Below B w w' := Any.Builder_String_empty Tryd.lays169 Tryd.Builder_Extra_169 B b w h hBw
open Go.RowKit in
/-- (*strings.Builder).String: "String returns the accumulated string.": WHATEVER THE BUILDER HOLDS. (LAID: no walk: one application.) -/
theorem Tryd.Builder_String_any (B b : Nat) (l : List UInt8) (w : World) (h : Lib.IsBuilder 157 5 B b (Lib.byteCells l) w) (hBw : B ≤ w.heap.size) :
    Calls Tryd.prog 66 #[.pointer (some ⟨b, 0, none⟩)] w fun e w' => e = .returned (.string ⟨l.toArray⟩) ∧ Below B w w' := Any.Builder_String_any Tryd.lays169 Tryd.Builder_Extra_169 B b l w h hBw
def Tryd.lays241_ren : Go.Shelf.Ren := ⟨fun | 241 => 79 | 277 => 92 | n => n, fun | 70 => 155 | 3 => 3 | 0 => 0 | 72 => 157 | 37 => 50 | 5 => 5 | n => n, fun | n => n⟩
theorem Tryd.lays241 : Go.Proofs.Lays.n241 Tryd.prog Tryd.lays241_ren := {
  mixed := by kernel_rfl
  f241 := Tryd.func79.trans (congrArg some (by kernel_rfl))
  f277 := Tryd.func92.trans (congrArg some (by kernel_rfl))
  t0 := Tryd.underlying0
  a0 := Tryd.isAgg0
  z0 := Tryd.sizeOf0
  v0 := Tryd.zeroValue0
  t3 := Tryd.underlying3
  a3 := Tryd.isAgg3
  z3 := Tryd.sizeOf3
  v3 := Tryd.zeroValue3
  t37 := Tryd.underlying50
  a37 := Tryd.isAgg50
  z37 := Tryd.sizeOf50
  v37 := Tryd.zeroValue50
  t70 := Tryd.underlying155
  a70 := Tryd.isAgg155
  z70 := Tryd.sizeOf155
  v70 := Tryd.zeroValue155
  t72 := Tryd.underlying157
  a72 := Tryd.isAgg157
  z72 := Tryd.sizeOf157
  v72 := Tryd.zeroValue157 }
theorem Tryd.Builder_Extra_241 : Builder.Extra Tryd.prog Tryd.lays241_ren := {
  sizeBuilder := by kernel_rfl
  liesBuilder := by kernel_rfl
  t5 := Tryd.underlying5
  a5 := Tryd.isAgg5
  z5 := Tryd.sizeOf5
  v5 := Tryd.zeroValue5
  infoByte := by kernel_rfl
  cellsByte := by kernel_rfl
  sizeByte := by kernel_rfl
  neB5 := by decide }
open Go.RowKit in
/-- (*strings.Builder).grow (no doc but "grow copies the buffer to a new, larger buffer so that there are at least n bytes of capacity beyond len(b.buf)."): AT A BUILDER WITHOUT A BUFFER: a new row of whatever bytes for its buffer, none of them its own yet. Three draws. (LAID: no walk: one application.) -/
theorem Tryd.Builder_grow_fresh (B b n : Nat) (w : World) (hB : B ≤ b) (hbk : w.heap[b]? = some (.cells #[.pointer (some ⟨b, 0, none⟩), .slice none 0 0] 157 (0, 0))) (hBw : B ≤ w.heap.size) (hn : n ≤ 281474976710656) :
    Calls Tryd.prog 79 #[.pointer (some ⟨b, 0, none⟩), .int .i64 n] w fun e w' => e = .returned (.tuple #[]) ∧ (Lib.BuilderAt 157 5 B b (.pointer (some ⟨b, 0, none⟩)) [] w' ∧ Below B w w') := Any.Builder_grow_fresh Tryd.lays241 Tryd.Builder_Extra_241 B b n w hB hbk hBw hn
def Tryd.lays165_ren : Go.Shelf.Ren := ⟨fun | 165 => 63 | 240 => 78 | 241 => 79 | 276 => 91 | 277 => 92 | n => n, fun | 70 => 155 | 3 => 3 | 0 => 0 | 4 => 4 | 9 => 9 | 20 => 20 | 72 => 157 | 37 => 50 | 164 => 194 | 5 => 5 | n => n, fun | n => n⟩
theorem Tryd.lays165 : Go.Proofs.Lays.n165 Tryd.prog Tryd.lays165_ren := {
  mixed := by kernel_rfl
  f165 := Tryd.func63.trans (congrArg some (by kernel_rfl))
  f240 := Tryd.func78.trans (congrArg some (by kernel_rfl))
  f241 := Tryd.func79.trans (congrArg some (by kernel_rfl))
  f276 := Tryd.func91.trans (congrArg some (by kernel_rfl))
  f277 := Tryd.func92.trans (congrArg some (by kernel_rfl))
  t0 := Tryd.underlying0
  a0 := Tryd.isAgg0
  z0 := Tryd.sizeOf0
  v0 := Tryd.zeroValue0
  t3 := Tryd.underlying3
  a3 := Tryd.isAgg3
  z3 := Tryd.sizeOf3
  v3 := Tryd.zeroValue3
  t4 := Tryd.underlying4
  a4 := Tryd.isAgg4
  z4 := Tryd.sizeOf4
  v4 := Tryd.zeroValue4
  t9 := Tryd.underlying9
  a9 := Tryd.isAgg9
  z9 := Tryd.sizeOf9
  v9 := Tryd.zeroValue9
  t20 := Tryd.underlying20
  a20 := Tryd.isAgg20
  z20 := Tryd.sizeOf20
  v20 := Tryd.zeroValue20
  t37 := Tryd.underlying50
  a37 := Tryd.isAgg50
  z37 := Tryd.sizeOf50
  v37 := Tryd.zeroValue50
  t70 := Tryd.underlying155
  a70 := Tryd.isAgg155
  z70 := Tryd.sizeOf155
  v70 := Tryd.zeroValue155
  t72 := Tryd.underlying157
  a72 := Tryd.isAgg157
  z72 := Tryd.sizeOf157
  v72 := Tryd.zeroValue157
  t164 := Tryd.underlying194
  a164 := Tryd.isAgg194
  z164 := Tryd.sizeOf194
  v164 := Tryd.zeroValue194 }
theorem Tryd.Builder_Extra_165 : Builder.Extra Tryd.prog Tryd.lays165_ren := {
  sizeBuilder := by kernel_rfl
  liesBuilder := by kernel_rfl
  t5 := Tryd.underlying5
  a5 := Tryd.isAgg5
  z5 := Tryd.sizeOf5
  v5 := Tryd.zeroValue5
  infoByte := by kernel_rfl
  cellsByte := by kernel_rfl
  sizeByte := by kernel_rfl
  neB5 := by decide }
open Go.RowKit in
/-- (*strings.Builder).Grow AT A BUILDER THAT HAS NOT BEEN WRITTEN ('var b strings.Builder; b.Grow(n)'): "Grow grows b's capacity, if necessary, to guarantee space for another n bytes.": it holds no byte behind it as before it. (LAID: no walk: one application.) -/
theorem Tryd.Builder_Grow_fresh (B b n : Nat) (w : World) (hB : B ≤ b) (hbk : w.heap[b]? = some (.cells #[.pointer none, .slice none 0 0] 157 (0, 0))) (hBw : B ≤ w.heap.size) (hn : n ≤ 281474976710656) :
    Calls Tryd.prog 63 #[.pointer (some ⟨b, 0, none⟩), .int .i64 n] w fun e w' => e = .returned (.tuple #[]) ∧ (Lib.BuilderAt 157 5 B b (.pointer (some ⟨b, 0, none⟩)) [] w' ∧ Below B w w') := Any.Builder_Grow_fresh Tryd.lays165 Tryd.Builder_Extra_165 B b n w hB hbk hBw hn
def Tryd.lays158_ren : Go.Shelf.Ren := ⟨fun | 158 => 57 | 165 => 63 | 166 => 64 | 167 => 65 | 169 => 66 | 230 => 67 | 203 => 68 | 240 => 78 | 241 => 79 | 197 => 80 | 118 => 81 | 168 => 82 | 270 => 83 | 262 => 84 | 276 => 91 | 277 => 92 | 260 => 93 | 242 => 94 | 313 => 95 | 278 => 98 | 274 => 99 | 275 => 100 | n => n, fun | 9 => 9 | 4 => 4 | 3 => 3 | 5 => 5 | 72 => 157 | 0 => 0 | 76 => 102 | 75 => 56 | 107 => 162 | 70 => 155 | 20 => 20 | 37 => 50 | 127 => 179 | 21 => 21 | 105 => 180 | 164 => 194 | 162 => 200 | 203 => 198 | 119 => 202 | 46 => 192 | 139 => 205 | 138 => 204 | 51 => 189 | 160 => 206 | 208 => 214 | 206 => 212 | 80 => 68 | n => n, fun | 13 => 4 | 3 => 6 | 4 => 7 | n => n⟩
theorem Tryd.lays158 : Go.Proofs.Lays.n158 Tryd.prog Tryd.lays158_ren := {
  mixed := by kernel_rfl
  f118 := Tryd.func81.trans (congrArg some (by kernel_rfl))
  f158 := Tryd.func57.trans (congrArg some (by kernel_rfl))
  f165 := Tryd.func63.trans (congrArg some (by kernel_rfl))
  f166 := Tryd.func64.trans (congrArg some (by kernel_rfl))
  f167 := Tryd.func65.trans (congrArg some (by kernel_rfl))
  f168 := Tryd.func82.trans (congrArg some (by kernel_rfl))
  f169 := Tryd.func66.trans (congrArg some (by kernel_rfl))
  f197 := Tryd.func80.trans (congrArg some (by kernel_rfl))
  f203 := Tryd.func68.trans (congrArg some (by kernel_rfl))
  f230 := Tryd.func67.trans (congrArg some (by kernel_rfl))
  f240 := Tryd.func78.trans (congrArg some (by kernel_rfl))
  f241 := Tryd.func79.trans (congrArg some (by kernel_rfl))
  f242 := Tryd.func94.trans (congrArg some (by kernel_rfl))
  f260 := Tryd.func93.trans (congrArg some (by kernel_rfl))
  f262 := Tryd.func84.trans (congrArg some (by kernel_rfl))
  f270 := Tryd.func83.trans (congrArg some (by kernel_rfl))
  f274 := Tryd.func99.trans (congrArg some (by kernel_rfl))
  f275 := Tryd.func100.trans (congrArg some (by kernel_rfl))
  f276 := Tryd.func91.trans (congrArg some (by kernel_rfl))
  f277 := Tryd.func92.trans (congrArg some (by kernel_rfl))
  f278 := Tryd.func98.trans (congrArg some (by kernel_rfl))
  f313 := Tryd.func95.trans (congrArg some (by kernel_rfl))
  t0 := Tryd.underlying0
  a0 := Tryd.isAgg0
  z0 := Tryd.sizeOf0
  v0 := Tryd.zeroValue0
  t3 := Tryd.underlying3
  a3 := Tryd.isAgg3
  z3 := Tryd.sizeOf3
  v3 := Tryd.zeroValue3
  t4 := Tryd.underlying4
  a4 := Tryd.isAgg4
  z4 := Tryd.sizeOf4
  v4 := Tryd.zeroValue4
  t5 := Tryd.underlying5
  a5 := Tryd.isAgg5
  z5 := Tryd.sizeOf5
  v5 := Tryd.zeroValue5
  t9 := Tryd.underlying9
  a9 := Tryd.isAgg9
  z9 := Tryd.sizeOf9
  v9 := Tryd.zeroValue9
  t20 := Tryd.underlying20
  a20 := Tryd.isAgg20
  z20 := Tryd.sizeOf20
  v20 := Tryd.zeroValue20
  t21 := Tryd.underlying21
  a21 := Tryd.isAgg21
  z21 := Tryd.sizeOf21
  v21 := Tryd.zeroValue21
  t37 := Tryd.underlying50
  a37 := Tryd.isAgg50
  z37 := Tryd.sizeOf50
  v37 := Tryd.zeroValue50
  t46 := Tryd.underlying192
  a46 := Tryd.isAgg192
  z46 := Tryd.sizeOf192
  v46 := Tryd.zeroValue192
  t51 := Tryd.underlying189
  a51 := Tryd.isAgg189
  z51 := Tryd.sizeOf189
  v51 := Tryd.zeroValue189
  t70 := Tryd.underlying155
  a70 := Tryd.isAgg155
  z70 := Tryd.sizeOf155
  v70 := Tryd.zeroValue155
  t72 := Tryd.underlying157
  a72 := Tryd.isAgg157
  z72 := Tryd.sizeOf157
  v72 := Tryd.zeroValue157
  t75 := Tryd.underlying56
  a75 := Tryd.isAgg56
  z75 := Tryd.sizeOf56
  v75 := Tryd.zeroValue56
  t76 := Tryd.underlying102
  a76 := Tryd.isAgg102
  z76 := Tryd.sizeOf102
  v76 := Tryd.zeroValue102
  t105 := Tryd.underlying180
  a105 := Tryd.isAgg180
  z105 := Tryd.sizeOf180
  v105 := Tryd.zeroValue180
  t107 := Tryd.underlying162
  a107 := Tryd.isAgg162
  z107 := Tryd.sizeOf162
  v107 := Tryd.zeroValue162
  t119 := Tryd.underlying202
  a119 := Tryd.isAgg202
  z119 := Tryd.sizeOf202
  t127 := Tryd.underlying179
  a127 := Tryd.isAgg179
  z127 := Tryd.sizeOf179
  v127 := Tryd.zeroValue179
  t138 := Tryd.underlying204
  a138 := Tryd.isAgg204
  z138 := Tryd.sizeOf204
  v138 := Tryd.zeroValue204
  t139 := Tryd.underlying205
  a139 := Tryd.isAgg205
  z139 := Tryd.sizeOf205
  v139 := Tryd.zeroValue205
  t160 := Tryd.underlying206
  a160 := Tryd.isAgg206
  z160 := Tryd.sizeOf206
  v160 := Tryd.zeroValue206
  t162 := Tryd.underlying200
  a162 := Tryd.isAgg200
  z162 := Tryd.sizeOf200
  v162 := Tryd.zeroValue200
  t164 := Tryd.underlying194
  a164 := Tryd.isAgg194
  z164 := Tryd.sizeOf194
  v164 := Tryd.zeroValue194
  t203 := Tryd.underlying198
  a203 := Tryd.isAgg198
  z203 := Tryd.sizeOf198
  v203 := Tryd.zeroValue198
  t206 := Tryd.underlying212
  a206 := Tryd.isAgg212
  z206 := Tryd.sizeOf212
  v206 := Tryd.zeroValue212
  t208 := Tryd.underlying214
  a208 := Tryd.isAgg214
  z208 := Tryd.sizeOf214
  v208 := Tryd.zeroValue214
  g3 := by kernel_rfl
  g4 := by kernel_rfl
  g13 := by kernel_rfl }
theorem Tryd.Builder_Extra_158 : Builder.Extra Tryd.prog Tryd.lays158_ren := {
  sizeBuilder := by kernel_rfl
  liesBuilder := by kernel_rfl
  t5 := Tryd.underlying5
  a5 := Tryd.isAgg5
  z5 := Tryd.sizeOf5
  v5 := Tryd.zeroValue5
  infoByte := by kernel_rfl
  cellsByte := by kernel_rfl
  sizeByte := by kernel_rfl
  neB5 := by decide }
open Go.RowKit in
/-- strings.ToUpper: "ToUpper returns s with all Unicode letters mapped to their upper case.": ON ASCII TEXT OF AT MOST 2^47 BYTES. Below the heap's end the world is as it was: where a letter turns, the call makes a builder and its buffer. (LAID: no walk: one application.) -/
theorem Tryd.strings_ToUpper_ascii (s : ByteArray) (w : World) (hs : s.size ≤ 140737488355328) (hascii : ∀ (j : Nat) (b : UInt8), s.data.toList[j]? = some b → b.toNat < 128) :
    Calls Tryd.prog 57 #[.string s] w fun e w' => e = .returned (.string ⟨(Lib.toUpperA s.data.toList).toArray⟩) ∧ Below w.heap.size w w' := Any.strings_ToUpper_ascii Tryd.lays158 Tryd.Builder_Extra_158 s w hs hascii
def Tryd.lays118_ren : Go.Shelf.Ren := ⟨fun | 118 => 81 | n => n, fun | 21 => 21 | 3 => 3 | 4 => 4 | n => n, fun | n => n⟩
theorem Tryd.lays118 : Go.Proofs.Lays.n118 Tryd.prog Tryd.lays118_ren := {
  mixed := by kernel_rfl
  f118 := Tryd.func81.trans (congrArg some (by kernel_rfl))
  t3 := Tryd.underlying3
  a3 := Tryd.isAgg3
  z3 := Tryd.sizeOf3
  v3 := Tryd.zeroValue3
  t4 := Tryd.underlying4
  a4 := Tryd.isAgg4
  z4 := Tryd.sizeOf4
  v4 := Tryd.zeroValue4
  t21 := Tryd.underlying21
  a21 := Tryd.isAgg21
  z21 := Tryd.sizeOf21
  v21 := Tryd.zeroValue21 }
/-- utf8.RuneLen: "RuneLen returns the number of bytes in the UTF-8 encoding of the rune. It returns -1 if the rune is not a valid value to encode in UTF-8.": IT RETURNS 'Lib.runeLen r'; the world is as it was. (LAID: no walk: one application.) -/
theorem Tryd.utf8_RuneLen (r : Int) (w : World) :
    Calls Tryd.prog 81 #[.int .i32 r] w fun e w' => e = .returned (.int .i64 (Lib.runeLen r)) ∧ w' = w := Any.utf8_RuneLen Tryd.lays118 r w
open Go.RowKit in
/-- (*strings.Builder).Len: "Len returns the number of accumulated bytes; b.Len() == len(b.String()).": the world is as it was. (THE FORM '_f': 'Lib.IsBuilderF'.) (LAID: no walk: one application.) -/
theorem Tryd.Builder_Len_f (B b : Nat) (bs : List Value) (w : World) (h : Lib.IsBuilderF 157 5 B b bs w) :
    Calls Tryd.prog 152 #[.pointer (some ⟨b, 0, none⟩)] w fun e w' => e = .returned (.int .i64 bs.length) ∧ w' = w := Any.Builder_Len_f Tryd.lays170 B b bs w h
open Go.RowKit in
/-- (*strings.Builder).String: "String returns the accumulated string.": OF A BUILDER THAT HOLDS AT LEAST ONE BYTE. ✋ THE MODEL FREEZES THOSE BYTES IN THE BUFFER (unsafe.String): a later write INTO them ends the model's run without an answer; a later append BEHIND them goes on. The statement's order of evaluation is drawn: one draw. THE FORM '_f': IT SAYS BESIDES THAT THE BUILDER IS A BUILDER STILL ('Lib.IsBuilderF', the same bytes): SO IT CAN BE WRITTEN ON: 'b.WriteString(b.String()[:k])'. (LAID: no walk: one application.) -/
theorem Tryd.Builder_String_f (B b : Nat) (l : List UInt8) (w : World) (h : Lib.IsBuilderF 157 5 B b (Lib.byteCells l) w) (h0 : l ≠ []) :
    Calls Tryd.prog 66 #[.pointer (some ⟨b, 0, none⟩)] w fun e w' => e = .returned (.string ⟨l.toArray⟩) ∧ (Lib.IsBuilderF 157 5 B b (Lib.byteCells l) w' ∧ Below B w w') := Any.Builder_String_f Tryd.lays169 Tryd.Builder_Extra_169 B b l w h h0
open Go.RowKit in
/-- (*strings.Builder).String OF A BUILDER THAT HOLDS NO BYTE: the empty string; THE FORM '_f': a builder still. (LAID: no walk: one application.) -/
theorem Tryd.Builder_String_empty_f (B b : Nat) (w : World) (h : Lib.IsBuilderF 157 5 B b [] w) (hBw : B ≤ w.heap.size) :
    Calls Tryd.prog 66 #[.pointer (some ⟨b, 0, none⟩)] w fun e w' => e = .returned (.string ⟨#[]⟩) ∧ (Lib.IsBuilderF 157 5 B b [] w' ∧ Below B w w') := Any.Builder_String_empty_f Tryd.lays169 Tryd.Builder_Extra_169 B b w h hBw
open Go.RowKit in
/-- (*strings.Builder).String: "String returns the accumulated string.": WHATEVER THE BUILDER HOLDS; THE FORM '_f': OF A BUILDER THAT MAY HAVE BEEN READ BEFORE; AND IT IS A BUILDER STILL, holding the same bytes: it can be written on. (LAID: no walk: one application.) -/
theorem Tryd.Builder_String_any_f (B b : Nat) (l : List UInt8) (w : World) (h : Lib.IsBuilderF 157 5 B b (Lib.byteCells l) w) (hBw : B ≤ w.heap.size) :
    Calls Tryd.prog 66 #[.pointer (some ⟨b, 0, none⟩)] w fun e w' => e = .returned (.string ⟨l.toArray⟩) ∧ (Lib.IsBuilderF 157 5 B b (Lib.byteCells l) w' ∧ Below B w w') := Any.Builder_String_any_f Tryd.lays169 Tryd.Builder_Extra_169 B b l w h hBw
open Go.RowKit in
/-- (*strings.Builder).String: "String returns the accumulated string.": OF A BUILDER THAT HOLDS AT LEAST ONE BYTE. ✋ THE MODEL FREEZES THOSE BYTES IN THE BUFFER (unsafe.String): a later write INTO them ends the model's run without an answer; a later append BEHIND them goes on. The statement's order of evaluation is drawn: one draw. THE FORM '_k': OVER 'Lib.IsBuilderF' (a builder that 'String()' may have read), AND WITH THE FRAME THAT REACHES ABOVE THE BUILDER: 'Lib.OthersKept': every block that is not b and is no row of uint8's stands as it stood: the iterator of a range among them. (LAID: no walk: one application.) -/
theorem Tryd.Builder_String_k (B b : Nat) (l : List UInt8) (w : World) (h : Lib.IsBuilderF 157 5 B b (Lib.byteCells l) w) (h0 : l ≠ []) :
    Calls Tryd.prog 66 #[.pointer (some ⟨b, 0, none⟩)] w fun e w' => e = .returned (.string ⟨l.toArray⟩) ∧ (Lib.IsBuilderF 157 5 B b (Lib.byteCells l) w' ∧ Below B w w' ∧ Lib.OthersKept 5 (some b) w w') := Any.Builder_String_k Tryd.lays169 Tryd.Builder_Extra_169 B b l w h h0
open Go.RowKit in
/-- (*strings.Builder).String OF A BUILDER THAT HOLDS NO BYTE: the empty string; THE FORM '_k': OVER 'Lib.IsBuilderF' (a builder that 'String()' may have read), AND WITH THE FRAME THAT REACHES ABOVE THE BUILDER: 'Lib.OthersKept': every block that is not b and is no row of uint8's stands as it stood: the iterator of a range among them. (LAID: no walk: one application.) -/
theorem Tryd.Builder_String_empty_k (B b : Nat) (w : World) (h : Lib.IsBuilderF 157 5 B b [] w) (hBw : B ≤ w.heap.size) :
    Calls Tryd.prog 66 #[.pointer (some ⟨b, 0, none⟩)] w fun e w' => e = .returned (.string ⟨#[]⟩) ∧ (Lib.IsBuilderF 157 5 B b [] w' ∧ Below B w w' ∧ Lib.OthersKept 5 (some b) w w') := Any.Builder_String_empty_k Tryd.lays169 Tryd.Builder_Extra_169 B b w h hBw
open Go.RowKit in
/-- (*strings.Builder).String: "String returns the accumulated string.": WHATEVER THE BUILDER HOLDS; THE FORM '_k': OVER 'Lib.IsBuilderF' (a builder that 'String()' may have read), AND WITH THE FRAME THAT REACHES ABOVE THE BUILDER: 'Lib.OthersKept': every block that is not b and is no row of uint8's stands as it stood: the iterator of a range among them. (LAID: no walk: one application.) -/
theorem Tryd.Builder_String_any_k (B b : Nat) (l : List UInt8) (w : World) (h : Lib.IsBuilderF 157 5 B b (Lib.byteCells l) w) (hBw : B ≤ w.heap.size) :
    Calls Tryd.prog 66 #[.pointer (some ⟨b, 0, none⟩)] w fun e w' => e = .returned (.string ⟨l.toArray⟩) ∧ (Lib.IsBuilderF 157 5 B b (Lib.byteCells l) w' ∧ Below B w w' ∧ Lib.OthersKept 5 (some b) w w') := Any.Builder_String_any_k Tryd.lays169 Tryd.Builder_Extra_169 B b l w h hBw
def Tryd.lays129_ren : Go.Shelf.Ren := ⟨fun | 129 => 87 | n => n, fun | 53 => 71 | 3 => 3 | 4 => 4 | 46 => 192 | 5 => 5 | 9 => 9 | n => n, fun | n => n⟩
theorem Tryd.lays129 : Go.Proofs.Lays.n129 Tryd.prog Tryd.lays129_ren := {
  mixed := by kernel_rfl
  f129 := Tryd.func87.trans (congrArg some (by kernel_rfl))
  t3 := Tryd.underlying3
  a3 := Tryd.isAgg3
  z3 := Tryd.sizeOf3
  v3 := Tryd.zeroValue3
  t4 := Tryd.underlying4
  a4 := Tryd.isAgg4
  z4 := Tryd.sizeOf4
  v4 := Tryd.zeroValue4
  t5 := Tryd.underlying5
  a5 := Tryd.isAgg5
  z5 := Tryd.sizeOf5
  v5 := Tryd.zeroValue5
  t9 := Tryd.underlying9
  a9 := Tryd.isAgg9
  z9 := Tryd.sizeOf9
  v9 := Tryd.zeroValue9
  t46 := Tryd.underlying192
  a46 := Tryd.isAgg192
  z46 := Tryd.sizeOf192
  v46 := Tryd.zeroValue192
  t53 := Tryd.underlying71
  a53 := Tryd.isAgg71
  z53 := Tryd.sizeOf71
  v53 := Tryd.zeroValue71 }
/-- bits.Len64: "Len64 returns the minimum number of bits required to represent x; the result is 0 for x == 0.": IT RETURNS 'Lib.bitLen x'; the world is as it was. ('h0', 'h1': x is a uint64.) (LAID: no walk: one application.) -/
theorem Tryd.bits_Len64 (x : Int) (w : World) (h0 : 0 ≤ x) (h1 : x ≤ 18446744073709551615) :
    Calls Tryd.prog 87 #[.int .u64 x] w fun e w' => e = .returned (.int .i64 (Lib.bitLen x.toNat)) ∧ w' = w := Any.bits_Len64 Tryd.lays129 x w h0 h1
def Tryd.lays317_ren : Go.Shelf.Ren := ⟨fun | 317 => 86 | n => n, fun | 3 => 3 | 46 => 192 | n => n, fun | n => n⟩
theorem Tryd.lays317 : Go.Proofs.Lays.n317 Tryd.prog Tryd.lays317_ren := {
  mixed := by kernel_rfl
  f317 := Tryd.func86.trans (congrArg some (by kernel_rfl))
  t3 := Tryd.underlying3
  a3 := Tryd.isAgg3
  z3 := Tryd.sizeOf3
  v3 := Tryd.zeroValue3
  t46 := Tryd.underlying192
  a46 := Tryd.isAgg192
  z46 := Tryd.sizeOf192
  v46 := Tryd.zeroValue192 }
open Go.Lib in
/-- internal/strconv.log10Pow2: "log10Pow2(x) returns ⌊log₁₀ 2**x⌋ = ⌊x * log₁₀ 2⌋.": '(x * 78913) >> 18', at an x up to 64 (a length in bits). The world is as it was. (LAID: no walk: one application.) -/
theorem Tryd.internal_strconv_log10Pow2 (x : Nat) (h : x ≤ 64) (w : World) :
    Calls Tryd.prog 86 #[.int .i64 x] w fun e w' => e = .returned (.int .i64 (Lib.l10 x)) ∧ w' = w := Any.internal_strconv_log10Pow2 Tryd.lays317 x h w
def Tryd.lays318_ren : Go.Shelf.Ren := ⟨fun | 318 => 88 | n => n, fun | 3 => 3 | 4 => 4 | n => n, fun | n => n⟩
theorem Tryd.lays318 : Go.Proofs.Lays.n318 Tryd.prog Tryd.lays318_ren := {
  mixed := by kernel_rfl
  f318 := Tryd.func88.trans (congrArg some (by kernel_rfl))
  t3 := Tryd.underlying3
  a3 := Tryd.isAgg3
  z3 := Tryd.sizeOf3
  v3 := Tryd.zeroValue3
  t4 := Tryd.underlying4
  a4 := Tryd.isAgg4
  z4 := Tryd.sizeOf4
  v4 := Tryd.zeroValue4 }
open Go.Lib in
/-- internal/strconv.bool2: "bool2 converts b to an integer: 1 for true, 0 for false." The world is as it was. (LAID: no walk: one application.) -/
theorem Tryd.internal_strconv_bool2_int (b : Bool) (w : World) :
    Calls Tryd.prog 88 #[.bool b] w fun e w' => e = .returned (.int .i64 (if b then 1 else 0)) ∧ w' = w := Any.internal_strconv_bool2_int Tryd.lays318 b w
def Tryd.lays283_ren : Go.Shelf.Ren := ⟨fun | 283 => 74 | n => n, fun | 3 => 3 | 9 => 9 | 4 => 4 | n => n, fun | n => n⟩
theorem Tryd.lays283 : Go.Proofs.Lays.n283 Tryd.prog Tryd.lays283_ren := {
  mixed := by kernel_rfl
  f283 := Tryd.func74.trans (congrArg some (by kernel_rfl))
  t3 := Tryd.underlying3
  a3 := Tryd.isAgg3
  z3 := Tryd.sizeOf3
  v3 := Tryd.zeroValue3
  t4 := Tryd.underlying4
  a4 := Tryd.isAgg4
  z4 := Tryd.sizeOf4
  v4 := Tryd.zeroValue4
  t9 := Tryd.underlying9
  a9 := Tryd.isAgg9
  z9 := Tryd.sizeOf9
  v9 := Tryd.zeroValue9 }
open Go.Lib in
/-- internal/strconv.small: "small returns the string for an i with 0 <= i < nSmalls.": i's decimal numeral. The world is as it was. (LAID: no walk: one application.) -/
theorem Tryd.internal_strconv_small (i : Nat) (h : i < 100) (w : World) :
    Calls Tryd.prog 74 #[.int .i64 i] w fun e w' => e = .returned (.string ⟨(Lib.decDigits i).toArray⟩) ∧ w' = w := Any.internal_strconv_small Tryd.lays283 i h w
def Tryd.laysM284_ren : Go.Shelf.Ren := ⟨fun | 284 => 75 | 129 => 87 | 317 => 86 | 318 => 88 | n => n, fun | 53 => 71 | 3 => 3 | 212 => 188 | 0 => 0 | 4 => 4 | 46 => 192 | 5 => 5 | 9 => 9 | n => n, fun | 17 => 3 | n => n⟩
theorem Tryd.laysM284 : Go.Proofs.LaysM.n284 Tryd.prog Tryd.laysM284_ren := {
  mixed := by kernel_rfl
  f129 := Tryd.func87.trans (congrArg some (by kernel_rfl))
  f284 := Tryd.func75.trans (congrArg some (by kernel_rfl))
  f317 := Tryd.func86.trans (congrArg some (by kernel_rfl))
  f318 := Tryd.func88.trans (congrArg some (by kernel_rfl))
  t0 := Tryd.underlying0
  a0 := Tryd.isAgg0
  z0 := Tryd.sizeOf0
  v0 := Tryd.zeroValue0
  t3 := Tryd.underlying3
  a3 := Tryd.isAgg3
  z3 := Tryd.sizeOf3
  v3 := Tryd.zeroValue3
  t4 := Tryd.underlying4
  a4 := Tryd.isAgg4
  z4 := Tryd.sizeOf4
  v4 := Tryd.zeroValue4
  t5 := Tryd.underlying5
  a5 := Tryd.isAgg5
  z5 := Tryd.sizeOf5
  v5 := Tryd.zeroValue5
  t9 := Tryd.underlying9
  a9 := Tryd.isAgg9
  z9 := Tryd.sizeOf9
  v9 := Tryd.zeroValue9
  t46 := Tryd.underlying192
  a46 := Tryd.isAgg192
  z46 := Tryd.sizeOf192
  v46 := Tryd.zeroValue192
  t53 := Tryd.underlying71
  a53 := Tryd.isAgg71
  z53 := Tryd.sizeOf71
  v53 := Tryd.zeroValue71
  t212 := Tryd.underlying188
  a212 := Tryd.isAgg188
  z212 := Tryd.sizeOf188
  v212 := Tryd.zeroValue188
  g17 := by kernel_rfl
  i0 := by kernel_rfl
  i3 := by kernel_rfl
  i4 := by kernel_rfl
  i5 := by kernel_rfl
  i9 := by kernel_rfl
  i46 := by kernel_rfl
  i53 := by kernel_rfl
  i212 := by kernel_rfl
  m17 := by kernel_rfl }
open Go.Lib in
/-- internal/strconv.numDigits, at a d that is not 0: THE NUMBER OF d's DECIMAL DIGITS. The world is as it was. (LAID: no walk: one application.) -/
theorem Tryd.internal_strconv_numDigits (u : Nat) (h1 : 1 ≤ u) (h2 : u < 18446744073709551616) (w : World) (htab : Lib.TabIs Tryd.prog w "internal/strconv.uint64pow10" .u64 Lib.pow10Tab) :
    Calls Tryd.prog 75 #[.int .u64 u] w fun e w' => e = .returned (.int .i64 (Lib.nDigits u)) ∧ w' = w := Any.internal_strconv_numDigits Tryd.laysM284 u h1 h2 w htab
def Tryd.lays285_ren : Go.Shelf.Ren := ⟨fun | 285 => 76 | n => n, fun | 37 => 50 | 53 => 71 | 3 => 3 | 4 => 4 | 51 => 189 | 9 => 9 | 5 => 5 | 0 => 0 | n => n, fun | n => n⟩
theorem Tryd.lays285 : Go.Proofs.Lays.n285 Tryd.prog Tryd.lays285_ren := {
  mixed := by kernel_rfl
  f285 := Tryd.func76.trans (congrArg some (by kernel_rfl))
  t0 := Tryd.underlying0
  a0 := Tryd.isAgg0
  z0 := Tryd.sizeOf0
  v0 := Tryd.zeroValue0
  t3 := Tryd.underlying3
  a3 := Tryd.isAgg3
  z3 := Tryd.sizeOf3
  v3 := Tryd.zeroValue3
  t4 := Tryd.underlying4
  a4 := Tryd.isAgg4
  z4 := Tryd.sizeOf4
  v4 := Tryd.zeroValue4
  t5 := Tryd.underlying5
  a5 := Tryd.isAgg5
  z5 := Tryd.sizeOf5
  v5 := Tryd.zeroValue5
  t9 := Tryd.underlying9
  a9 := Tryd.isAgg9
  z9 := Tryd.sizeOf9
  v9 := Tryd.zeroValue9
  t37 := Tryd.underlying50
  a37 := Tryd.isAgg50
  z37 := Tryd.sizeOf50
  v37 := Tryd.zeroValue50
  t51 := Tryd.underlying189
  a51 := Tryd.isAgg189
  z51 := Tryd.sizeOf189
  v51 := Tryd.zeroValue189
  t53 := Tryd.underlying71
  a53 := Tryd.isAgg71
  z53 := Tryd.sizeOf71
  v53 := Tryd.zeroValue71 }
open Go.RowKit Go.Sort Go.Lib in
/-- internal/strconv.formatBase10: "formatBase10 formats the decimal representation of u into a. The caller is responsible for ensuring that a is big enough to hold u. If a is too big, leading zeros will be filled in as needed.": THE ROW HOLDS u's DIGITS ('FmtInv .. 0 ..': every place t holds 'dg u (len - 1 - t)'); all else is as it was but for the count of draws. (LAID: no walk: one application.) -/
theorem Tryd.internal_strconv_formatBase10 (blk off cap : Nat) (u : Nat) (d : Array UInt8) (w : World) (hH : Holds (fun (b : UInt8) => Value.int .u8 (b.toNat : Int)) w blk off d) (hu : u < 10 ^ d.size) (hu64 : u < 18446744073709551616) (hsz : d.size < 4611686018427387904) :
    Calls Tryd.prog 76 #[.slice (some ⟨blk, off, none⟩) d.size cap, .int .u64 u] w fun e w' =>
      e = .returned (.tuple #[]) ∧ ∃ (n v' : Nat) (dk : Array UInt8), w' = (putRow (fun (b : UInt8) => Value.int .u8 (b.toNat : Int)) w blk off dk).drewN n ∧ FmtInv d.size u 0 v' dk := Any.internal_strconv_formatBase10 Tryd.lays285 blk off cap u d w hH hu hu64 hsz
def Tryd.laysM246_ren : Go.Shelf.Ren := ⟨fun | 246 => 85 | 283 => 74 | 284 => 75 | 285 => 76 | 286 => 77 | 129 => 87 | 317 => 86 | 318 => 88 | 319 => 89 | 320 => 90 | 337 => 96 | 338 => 97 | n => n, fun | 2 => 2 | 3 => 3 | 9 => 9 | 4 => 4 | 171 => 165 | 0 => 0 | 53 => 71 | 37 => 50 | 5 => 5 | 173 => 168 | 212 => 188 | 51 => 189 | 20 => 20 | 213 => 190 | 46 => 192 | 232 => 209 | 233 => 210 | n => n, fun | 17 => 3 | 18 => 8 | 19 => 9 | n => n⟩
theorem Tryd.laysM246 : Go.Proofs.LaysM.n246 Tryd.prog Tryd.laysM246_ren := {
  mixed := by kernel_rfl
  f129 := Tryd.func87.trans (congrArg some (by kernel_rfl))
  f246 := Tryd.func85.trans (congrArg some (by kernel_rfl))
  f283 := Tryd.func74.trans (congrArg some (by kernel_rfl))
  f284 := Tryd.func75.trans (congrArg some (by kernel_rfl))
  f285 := Tryd.func76.trans (congrArg some (by kernel_rfl))
  f286 := Tryd.func77.trans (congrArg some (by kernel_rfl))
  f317 := Tryd.func86.trans (congrArg some (by kernel_rfl))
  f318 := Tryd.func88.trans (congrArg some (by kernel_rfl))
  f319 := Tryd.func89.trans (congrArg some (by kernel_rfl))
  f320 := Tryd.func90.trans (congrArg some (by kernel_rfl))
  f337 := Tryd.func96.trans (congrArg some (by kernel_rfl))
  f338 := Tryd.func97.trans (congrArg some (by kernel_rfl))
  t0 := Tryd.underlying0
  a0 := Tryd.isAgg0
  z0 := Tryd.sizeOf0
  v0 := Tryd.zeroValue0
  t2 := Tryd.underlying2
  a2 := Tryd.isAgg2
  z2 := Tryd.sizeOf2
  v2 := Tryd.zeroValue2
  t3 := Tryd.underlying3
  a3 := Tryd.isAgg3
  z3 := Tryd.sizeOf3
  v3 := Tryd.zeroValue3
  t4 := Tryd.underlying4
  a4 := Tryd.isAgg4
  z4 := Tryd.sizeOf4
  v4 := Tryd.zeroValue4
  t5 := Tryd.underlying5
  a5 := Tryd.isAgg5
  z5 := Tryd.sizeOf5
  v5 := Tryd.zeroValue5
  t9 := Tryd.underlying9
  a9 := Tryd.isAgg9
  z9 := Tryd.sizeOf9
  v9 := Tryd.zeroValue9
  t20 := Tryd.underlying20
  a20 := Tryd.isAgg20
  z20 := Tryd.sizeOf20
  v20 := Tryd.zeroValue20
  t37 := Tryd.underlying50
  a37 := Tryd.isAgg50
  z37 := Tryd.sizeOf50
  v37 := Tryd.zeroValue50
  t46 := Tryd.underlying192
  a46 := Tryd.isAgg192
  z46 := Tryd.sizeOf192
  v46 := Tryd.zeroValue192
  t51 := Tryd.underlying189
  a51 := Tryd.isAgg189
  z51 := Tryd.sizeOf189
  v51 := Tryd.zeroValue189
  t53 := Tryd.underlying71
  a53 := Tryd.isAgg71
  z53 := Tryd.sizeOf71
  v53 := Tryd.zeroValue71
  t171 := Tryd.underlying165
  a171 := Tryd.isAgg165
  z171 := Tryd.sizeOf165
  v171 := Tryd.zeroValue165
  t173 := Tryd.underlying168
  a173 := Tryd.isAgg168
  z173 := Tryd.sizeOf168
  v173 := Tryd.zeroValue168
  t212 := Tryd.underlying188
  a212 := Tryd.isAgg188
  z212 := Tryd.sizeOf188
  v212 := Tryd.zeroValue188
  t213 := Tryd.underlying190
  a213 := Tryd.isAgg190
  z213 := Tryd.sizeOf190
  t232 := Tryd.underlying209
  a232 := Tryd.isAgg209
  z232 := Tryd.sizeOf209
  v232 := Tryd.zeroValue209
  t233 := Tryd.underlying210
  a233 := Tryd.isAgg210
  z233 := Tryd.sizeOf210
  v233 := Tryd.zeroValue210
  g17 := by kernel_rfl
  g18 := by kernel_rfl
  g19 := by kernel_rfl
  i0 := by kernel_rfl
  i2 := by kernel_rfl
  i3 := by kernel_rfl
  i4 := by kernel_rfl
  i5 := by kernel_rfl
  i9 := by kernel_rfl
  i20 := by kernel_rfl
  i37 := by kernel_rfl
  i46 := by kernel_rfl
  i51 := by kernel_rfl
  i53 := by kernel_rfl
  i171 := by kernel_rfl
  i173 := by kernel_rfl
  i212 := by kernel_rfl
  i232 := by kernel_rfl
  i233 := by kernel_rfl
  m17 := by kernel_rfl
  m18 := by kernel_rfl
  m19 := by kernel_rfl }
open Go.RowKit Go.Sort Go.Lib in
/-- internal/strconv.FormatInt: "FormatInt returns the string representation of i in the given base": AT BASE 10: i's decimal numeral, for every int64. The world behind the call: the world before it, new blocks behind the heap, draws. (LAID: no walk: one application.) -/
theorem Tryd.internal_strconv_FormatInt_10 (n : Int) (h0 : -9223372036854775808 ≤ n) (h1 : n ≤ 9223372036854775807) (w : World) (htab : Lib.TabIs Tryd.prog w "internal/strconv.uint64pow10" .u64 Lib.pow10Tab) :
    Calls Tryd.prog 85 #[.int .i64 n, .int .i64 10] w fun e w' => e = .returned (.string ⟨(Lib.itoa n).toArray⟩) ∧ ∃ k os, w' = grow (w.drewN k) os := Any.internal_strconv_FormatInt_10 Tryd.laysM246 n h0 h1 w htab
def Tryd.lays246_ren : Go.Shelf.Ren := ⟨fun | 246 => 85 | 283 => 74 | 284 => 75 | 285 => 76 | 286 => 77 | 129 => 87 | 317 => 86 | 318 => 88 | 319 => 89 | 320 => 90 | 337 => 96 | 338 => 97 | n => n, fun | 2 => 2 | 3 => 3 | 9 => 9 | 4 => 4 | 171 => 165 | 0 => 0 | 53 => 71 | 37 => 50 | 5 => 5 | 173 => 168 | 212 => 188 | 51 => 189 | 20 => 20 | 213 => 190 | 46 => 192 | 232 => 209 | 233 => 210 | n => n, fun | 17 => 3 | 18 => 8 | 19 => 9 | n => n⟩
theorem Tryd.lays246 : Go.Proofs.Lays.n246 Tryd.prog Tryd.lays246_ren := {
  mixed := by kernel_rfl
  f129 := Tryd.func87.trans (congrArg some (by kernel_rfl))
  f246 := Tryd.func85.trans (congrArg some (by kernel_rfl))
  f283 := Tryd.func74.trans (congrArg some (by kernel_rfl))
  f284 := Tryd.func75.trans (congrArg some (by kernel_rfl))
  f285 := Tryd.func76.trans (congrArg some (by kernel_rfl))
  f286 := Tryd.func77.trans (congrArg some (by kernel_rfl))
  f317 := Tryd.func86.trans (congrArg some (by kernel_rfl))
  f318 := Tryd.func88.trans (congrArg some (by kernel_rfl))
  f319 := Tryd.func89.trans (congrArg some (by kernel_rfl))
  f320 := Tryd.func90.trans (congrArg some (by kernel_rfl))
  f337 := Tryd.func96.trans (congrArg some (by kernel_rfl))
  f338 := Tryd.func97.trans (congrArg some (by kernel_rfl))
  t0 := Tryd.underlying0
  a0 := Tryd.isAgg0
  z0 := Tryd.sizeOf0
  v0 := Tryd.zeroValue0
  t2 := Tryd.underlying2
  a2 := Tryd.isAgg2
  z2 := Tryd.sizeOf2
  v2 := Tryd.zeroValue2
  t3 := Tryd.underlying3
  a3 := Tryd.isAgg3
  z3 := Tryd.sizeOf3
  v3 := Tryd.zeroValue3
  t4 := Tryd.underlying4
  a4 := Tryd.isAgg4
  z4 := Tryd.sizeOf4
  v4 := Tryd.zeroValue4
  t5 := Tryd.underlying5
  a5 := Tryd.isAgg5
  z5 := Tryd.sizeOf5
  v5 := Tryd.zeroValue5
  t9 := Tryd.underlying9
  a9 := Tryd.isAgg9
  z9 := Tryd.sizeOf9
  v9 := Tryd.zeroValue9
  t20 := Tryd.underlying20
  a20 := Tryd.isAgg20
  z20 := Tryd.sizeOf20
  v20 := Tryd.zeroValue20
  t37 := Tryd.underlying50
  a37 := Tryd.isAgg50
  z37 := Tryd.sizeOf50
  v37 := Tryd.zeroValue50
  t46 := Tryd.underlying192
  a46 := Tryd.isAgg192
  z46 := Tryd.sizeOf192
  v46 := Tryd.zeroValue192
  t51 := Tryd.underlying189
  a51 := Tryd.isAgg189
  z51 := Tryd.sizeOf189
  v51 := Tryd.zeroValue189
  t53 := Tryd.underlying71
  a53 := Tryd.isAgg71
  z53 := Tryd.sizeOf71
  v53 := Tryd.zeroValue71
  t171 := Tryd.underlying165
  a171 := Tryd.isAgg165
  z171 := Tryd.sizeOf165
  v171 := Tryd.zeroValue165
  t173 := Tryd.underlying168
  a173 := Tryd.isAgg168
  z173 := Tryd.sizeOf168
  v173 := Tryd.zeroValue168
  t212 := Tryd.underlying188
  a212 := Tryd.isAgg188
  z212 := Tryd.sizeOf188
  v212 := Tryd.zeroValue188
  t213 := Tryd.underlying190
  a213 := Tryd.isAgg190
  z213 := Tryd.sizeOf190
  t232 := Tryd.underlying209
  a232 := Tryd.isAgg209
  z232 := Tryd.sizeOf209
  v232 := Tryd.zeroValue209
  t233 := Tryd.underlying210
  a233 := Tryd.isAgg210
  z233 := Tryd.sizeOf210
  v233 := Tryd.zeroValue210
  g17 := by kernel_rfl
  g18 := by kernel_rfl
  g19 := by kernel_rfl }
open Go.RowKit Go.Sort Go.Lib in
/-- THE ROAD WITHOUT THE TABLE: 0 <= i < 100: two constants are read, nothing is laid: no premise on the world, and the world is as it was. (LAID: no walk: one application.) -/
theorem Tryd.internal_strconv_FormatInt_10_small (i : Nat) (hi : i < 100) (w : World) :
    Calls Tryd.prog 85 #[.int .i64 i, .int .i64 10] w fun e w' => e = .returned (.string ⟨(Lib.decDigits i).toArray⟩) ∧ w' = w := Any.internal_strconv_FormatInt_10_small Tryd.lays246 i hi w
def Tryd.laysM243_ren : Go.Shelf.Ren := ⟨fun | 243 => 69 | 246 => 85 | 283 => 74 | 284 => 75 | 285 => 76 | 286 => 77 | 129 => 87 | 317 => 86 | 318 => 88 | 319 => 89 | 320 => 90 | 337 => 96 | 338 => 97 | n => n, fun | 3 => 3 | 9 => 9 | 2 => 2 | 4 => 4 | 171 => 165 | 0 => 0 | 53 => 71 | 37 => 50 | 5 => 5 | 173 => 168 | 212 => 188 | 51 => 189 | 20 => 20 | 213 => 190 | 46 => 192 | 232 => 209 | 233 => 210 | n => n, fun | 17 => 3 | 18 => 8 | 19 => 9 | n => n⟩
theorem Tryd.laysM243 : Go.Proofs.LaysM.n243 Tryd.prog Tryd.laysM243_ren := {
  mixed := by kernel_rfl
  f129 := Tryd.func87.trans (congrArg some (by kernel_rfl))
  f243 := Tryd.func69.trans (congrArg some (by kernel_rfl))
  f246 := Tryd.func85.trans (congrArg some (by kernel_rfl))
  f283 := Tryd.func74.trans (congrArg some (by kernel_rfl))
  f284 := Tryd.func75.trans (congrArg some (by kernel_rfl))
  f285 := Tryd.func76.trans (congrArg some (by kernel_rfl))
  f286 := Tryd.func77.trans (congrArg some (by kernel_rfl))
  f317 := Tryd.func86.trans (congrArg some (by kernel_rfl))
  f318 := Tryd.func88.trans (congrArg some (by kernel_rfl))
  f319 := Tryd.func89.trans (congrArg some (by kernel_rfl))
  f320 := Tryd.func90.trans (congrArg some (by kernel_rfl))
  f337 := Tryd.func96.trans (congrArg some (by kernel_rfl))
  f338 := Tryd.func97.trans (congrArg some (by kernel_rfl))
  t0 := Tryd.underlying0
  a0 := Tryd.isAgg0
  z0 := Tryd.sizeOf0
  v0 := Tryd.zeroValue0
  t2 := Tryd.underlying2
  a2 := Tryd.isAgg2
  z2 := Tryd.sizeOf2
  v2 := Tryd.zeroValue2
  t3 := Tryd.underlying3
  a3 := Tryd.isAgg3
  z3 := Tryd.sizeOf3
  v3 := Tryd.zeroValue3
  t4 := Tryd.underlying4
  a4 := Tryd.isAgg4
  z4 := Tryd.sizeOf4
  v4 := Tryd.zeroValue4
  t5 := Tryd.underlying5
  a5 := Tryd.isAgg5
  z5 := Tryd.sizeOf5
  v5 := Tryd.zeroValue5
  t9 := Tryd.underlying9
  a9 := Tryd.isAgg9
  z9 := Tryd.sizeOf9
  v9 := Tryd.zeroValue9
  t20 := Tryd.underlying20
  a20 := Tryd.isAgg20
  z20 := Tryd.sizeOf20
  v20 := Tryd.zeroValue20
  t37 := Tryd.underlying50
  a37 := Tryd.isAgg50
  z37 := Tryd.sizeOf50
  v37 := Tryd.zeroValue50
  t46 := Tryd.underlying192
  a46 := Tryd.isAgg192
  z46 := Tryd.sizeOf192
  v46 := Tryd.zeroValue192
  t51 := Tryd.underlying189
  a51 := Tryd.isAgg189
  z51 := Tryd.sizeOf189
  v51 := Tryd.zeroValue189
  t53 := Tryd.underlying71
  a53 := Tryd.isAgg71
  z53 := Tryd.sizeOf71
  v53 := Tryd.zeroValue71
  t171 := Tryd.underlying165
  a171 := Tryd.isAgg165
  z171 := Tryd.sizeOf165
  v171 := Tryd.zeroValue165
  t173 := Tryd.underlying168
  a173 := Tryd.isAgg168
  z173 := Tryd.sizeOf168
  v173 := Tryd.zeroValue168
  t212 := Tryd.underlying188
  a212 := Tryd.isAgg188
  z212 := Tryd.sizeOf188
  v212 := Tryd.zeroValue188
  t213 := Tryd.underlying190
  a213 := Tryd.isAgg190
  z213 := Tryd.sizeOf190
  t232 := Tryd.underlying209
  a232 := Tryd.isAgg209
  z232 := Tryd.sizeOf209
  v232 := Tryd.zeroValue209
  t233 := Tryd.underlying210
  a233 := Tryd.isAgg210
  z233 := Tryd.sizeOf210
  v233 := Tryd.zeroValue210
  g17 := by kernel_rfl
  g18 := by kernel_rfl
  g19 := by kernel_rfl
  i0 := by kernel_rfl
  i2 := by kernel_rfl
  i3 := by kernel_rfl
  i4 := by kernel_rfl
  i5 := by kernel_rfl
  i9 := by kernel_rfl
  i20 := by kernel_rfl
  i37 := by kernel_rfl
  i46 := by kernel_rfl
  i51 := by kernel_rfl
  i53 := by kernel_rfl
  i171 := by kernel_rfl
  i173 := by kernel_rfl
  i212 := by kernel_rfl
  i232 := by kernel_rfl
  i233 := by kernel_rfl
  m17 := by kernel_rfl
  m18 := by kernel_rfl
  m19 := by kernel_rfl }
open Go.RowKit Go.Sort Go.Lib in
/-- internal/strconv.Itoa: "Itoa is equivalent to FormatInt(int64(i), 10).": i's decimal numeral, for every int. (LAID: no walk: one application.) -/
theorem Tryd.internal_strconv_Itoa (n : Int) (h0 : -9223372036854775808 ≤ n) (h1 : n ≤ 9223372036854775807) (w : World) (htab : Lib.TabIs Tryd.prog w "internal/strconv.uint64pow10" .u64 Lib.pow10Tab) :
    Calls Tryd.prog 69 #[.int .i64 n] w fun e w' => e = .returned (.string ⟨(Lib.itoa n).toArray⟩) ∧ ∃ k os, w' = grow (w.drewN k) os := Any.internal_strconv_Itoa Tryd.laysM243 n h0 h1 w htab
def Tryd.lays243_ren : Go.Shelf.Ren := ⟨fun | 243 => 69 | 246 => 85 | 283 => 74 | 284 => 75 | 285 => 76 | 286 => 77 | 129 => 87 | 317 => 86 | 318 => 88 | 319 => 89 | 320 => 90 | 337 => 96 | 338 => 97 | n => n, fun | 3 => 3 | 9 => 9 | 2 => 2 | 4 => 4 | 171 => 165 | 0 => 0 | 53 => 71 | 37 => 50 | 5 => 5 | 173 => 168 | 212 => 188 | 51 => 189 | 20 => 20 | 213 => 190 | 46 => 192 | 232 => 209 | 233 => 210 | n => n, fun | 17 => 3 | 18 => 8 | 19 => 9 | n => n⟩
theorem Tryd.lays243 : Go.Proofs.Lays.n243 Tryd.prog Tryd.lays243_ren := {
  mixed := by kernel_rfl
  f129 := Tryd.func87.trans (congrArg some (by kernel_rfl))
  f243 := Tryd.func69.trans (congrArg some (by kernel_rfl))
  f246 := Tryd.func85.trans (congrArg some (by kernel_rfl))
  f283 := Tryd.func74.trans (congrArg some (by kernel_rfl))
  f284 := Tryd.func75.trans (congrArg some (by kernel_rfl))
  f285 := Tryd.func76.trans (congrArg some (by kernel_rfl))
  f286 := Tryd.func77.trans (congrArg some (by kernel_rfl))
  f317 := Tryd.func86.trans (congrArg some (by kernel_rfl))
  f318 := Tryd.func88.trans (congrArg some (by kernel_rfl))
  f319 := Tryd.func89.trans (congrArg some (by kernel_rfl))
  f320 := Tryd.func90.trans (congrArg some (by kernel_rfl))
  f337 := Tryd.func96.trans (congrArg some (by kernel_rfl))
  f338 := Tryd.func97.trans (congrArg some (by kernel_rfl))
  t0 := Tryd.underlying0
  a0 := Tryd.isAgg0
  z0 := Tryd.sizeOf0
  v0 := Tryd.zeroValue0
  t2 := Tryd.underlying2
  a2 := Tryd.isAgg2
  z2 := Tryd.sizeOf2
  v2 := Tryd.zeroValue2
  t3 := Tryd.underlying3
  a3 := Tryd.isAgg3
  z3 := Tryd.sizeOf3
  v3 := Tryd.zeroValue3
  t4 := Tryd.underlying4
  a4 := Tryd.isAgg4
  z4 := Tryd.sizeOf4
  v4 := Tryd.zeroValue4
  t5 := Tryd.underlying5
  a5 := Tryd.isAgg5
  z5 := Tryd.sizeOf5
  v5 := Tryd.zeroValue5
  t9 := Tryd.underlying9
  a9 := Tryd.isAgg9
  z9 := Tryd.sizeOf9
  v9 := Tryd.zeroValue9
  t20 := Tryd.underlying20
  a20 := Tryd.isAgg20
  z20 := Tryd.sizeOf20
  v20 := Tryd.zeroValue20
  t37 := Tryd.underlying50
  a37 := Tryd.isAgg50
  z37 := Tryd.sizeOf50
  v37 := Tryd.zeroValue50
  t46 := Tryd.underlying192
  a46 := Tryd.isAgg192
  z46 := Tryd.sizeOf192
  v46 := Tryd.zeroValue192
  t51 := Tryd.underlying189
  a51 := Tryd.isAgg189
  z51 := Tryd.sizeOf189
  v51 := Tryd.zeroValue189
  t53 := Tryd.underlying71
  a53 := Tryd.isAgg71
  z53 := Tryd.sizeOf71
  v53 := Tryd.zeroValue71
  t171 := Tryd.underlying165
  a171 := Tryd.isAgg165
  z171 := Tryd.sizeOf165
  v171 := Tryd.zeroValue165
  t173 := Tryd.underlying168
  a173 := Tryd.isAgg168
  z173 := Tryd.sizeOf168
  v173 := Tryd.zeroValue168
  t212 := Tryd.underlying188
  a212 := Tryd.isAgg188
  z212 := Tryd.sizeOf188
  v212 := Tryd.zeroValue188
  t213 := Tryd.underlying190
  a213 := Tryd.isAgg190
  z213 := Tryd.sizeOf190
  t232 := Tryd.underlying209
  a232 := Tryd.isAgg209
  z232 := Tryd.sizeOf209
  v232 := Tryd.zeroValue209
  t233 := Tryd.underlying210
  a233 := Tryd.isAgg210
  z233 := Tryd.sizeOf210
  v233 := Tryd.zeroValue210
  g17 := by kernel_rfl
  g18 := by kernel_rfl
  g19 := by kernel_rfl }
open Go.RowKit Go.Sort Go.Lib in
/-- THE ROAD WITHOUT THE TABLE: 0 <= i < 100. (LAID: no walk: one application.) -/
theorem Tryd.internal_strconv_Itoa_small (i : Nat) (hi : i < 100) (w : World) :
    Calls Tryd.prog 69 #[.int .i64 i] w fun e w' => e = .returned (.string ⟨(Lib.decDigits i).toArray⟩) ∧ w' = w := Any.internal_strconv_Itoa_small Tryd.lays243 i hi w
def Tryd.laysM171_ren : Go.Shelf.Ren := ⟨fun | 171 => 58 | 243 => 69 | 246 => 85 | 283 => 74 | 284 => 75 | 285 => 76 | 286 => 77 | 129 => 87 | 317 => 86 | 318 => 88 | 319 => 89 | 320 => 90 | 337 => 96 | 338 => 97 | n => n, fun | 3 => 3 | 9 => 9 | 2 => 2 | 4 => 4 | 171 => 165 | 0 => 0 | 53 => 71 | 37 => 50 | 5 => 5 | 173 => 168 | 212 => 188 | 51 => 189 | 20 => 20 | 213 => 190 | 46 => 192 | 232 => 209 | 233 => 210 | n => n, fun | 17 => 3 | 18 => 8 | 19 => 9 | n => n⟩
theorem Tryd.laysM171 : Go.Proofs.LaysM.n171 Tryd.prog Tryd.laysM171_ren := {
  mixed := by kernel_rfl
  f129 := Tryd.func87.trans (congrArg some (by kernel_rfl))
  f171 := Tryd.func58.trans (congrArg some (by kernel_rfl))
  f243 := Tryd.func69.trans (congrArg some (by kernel_rfl))
  f246 := Tryd.func85.trans (congrArg some (by kernel_rfl))
  f283 := Tryd.func74.trans (congrArg some (by kernel_rfl))
  f284 := Tryd.func75.trans (congrArg some (by kernel_rfl))
  f285 := Tryd.func76.trans (congrArg some (by kernel_rfl))
  f286 := Tryd.func77.trans (congrArg some (by kernel_rfl))
  f317 := Tryd.func86.trans (congrArg some (by kernel_rfl))
  f318 := Tryd.func88.trans (congrArg some (by kernel_rfl))
  f319 := Tryd.func89.trans (congrArg some (by kernel_rfl))
  f320 := Tryd.func90.trans (congrArg some (by kernel_rfl))
  f337 := Tryd.func96.trans (congrArg some (by kernel_rfl))
  f338 := Tryd.func97.trans (congrArg some (by kernel_rfl))
  t0 := Tryd.underlying0
  a0 := Tryd.isAgg0
  z0 := Tryd.sizeOf0
  v0 := Tryd.zeroValue0
  t2 := Tryd.underlying2
  a2 := Tryd.isAgg2
  z2 := Tryd.sizeOf2
  v2 := Tryd.zeroValue2
  t3 := Tryd.underlying3
  a3 := Tryd.isAgg3
  z3 := Tryd.sizeOf3
  v3 := Tryd.zeroValue3
  t4 := Tryd.underlying4
  a4 := Tryd.isAgg4
  z4 := Tryd.sizeOf4
  v4 := Tryd.zeroValue4
  t5 := Tryd.underlying5
  a5 := Tryd.isAgg5
  z5 := Tryd.sizeOf5
  v5 := Tryd.zeroValue5
  t9 := Tryd.underlying9
  a9 := Tryd.isAgg9
  z9 := Tryd.sizeOf9
  v9 := Tryd.zeroValue9
  t20 := Tryd.underlying20
  a20 := Tryd.isAgg20
  z20 := Tryd.sizeOf20
  v20 := Tryd.zeroValue20
  t37 := Tryd.underlying50
  a37 := Tryd.isAgg50
  z37 := Tryd.sizeOf50
  v37 := Tryd.zeroValue50
  t46 := Tryd.underlying192
  a46 := Tryd.isAgg192
  z46 := Tryd.sizeOf192
  v46 := Tryd.zeroValue192
  t51 := Tryd.underlying189
  a51 := Tryd.isAgg189
  z51 := Tryd.sizeOf189
  v51 := Tryd.zeroValue189
  t53 := Tryd.underlying71
  a53 := Tryd.isAgg71
  z53 := Tryd.sizeOf71
  v53 := Tryd.zeroValue71
  t171 := Tryd.underlying165
  a171 := Tryd.isAgg165
  z171 := Tryd.sizeOf165
  v171 := Tryd.zeroValue165
  t173 := Tryd.underlying168
  a173 := Tryd.isAgg168
  z173 := Tryd.sizeOf168
  v173 := Tryd.zeroValue168
  t212 := Tryd.underlying188
  a212 := Tryd.isAgg188
  z212 := Tryd.sizeOf188
  v212 := Tryd.zeroValue188
  t213 := Tryd.underlying190
  a213 := Tryd.isAgg190
  z213 := Tryd.sizeOf190
  t232 := Tryd.underlying209
  a232 := Tryd.isAgg209
  z232 := Tryd.sizeOf209
  v232 := Tryd.zeroValue209
  t233 := Tryd.underlying210
  a233 := Tryd.isAgg210
  z233 := Tryd.sizeOf210
  v233 := Tryd.zeroValue210
  g17 := by kernel_rfl
  g18 := by kernel_rfl
  g19 := by kernel_rfl
  i0 := by kernel_rfl
  i2 := by kernel_rfl
  i3 := by kernel_rfl
  i4 := by kernel_rfl
  i5 := by kernel_rfl
  i9 := by kernel_rfl
  i20 := by kernel_rfl
  i37 := by kernel_rfl
  i46 := by kernel_rfl
  i51 := by kernel_rfl
  i53 := by kernel_rfl
  i171 := by kernel_rfl
  i173 := by kernel_rfl
  i212 := by kernel_rfl
  i232 := by kernel_rfl
  i233 := by kernel_rfl
  m17 := by kernel_rfl
  m18 := by kernel_rfl
  m19 := by kernel_rfl }
open Go.RowKit Go.Sort Go.Lib in
/-- strconv.Itoa: "Itoa is equivalent to FormatInt(int64(i), 10).": i's DECIMAL NUMERAL ('Lib.itoa': a '-' where i is negative, then the digits), FOR EVERY int. The world behind the call: the world before it, new blocks behind the heap (the library's 'var a [24]byte'), draws. (LAID: no walk: one application.) -/
theorem Tryd.strconv_Itoa (n : Int) (h0 : -9223372036854775808 ≤ n) (h1 : n ≤ 9223372036854775807) (w : World) (htab : Lib.TabIs Tryd.prog w "internal/strconv.uint64pow10" .u64 Lib.pow10Tab) :
    Calls Tryd.prog 58 #[.int .i64 n] w fun e w' => e = .returned (.string ⟨(Lib.itoa n).toArray⟩) ∧ ∃ k os, w' = grow (w.drewN k) os := Any.strconv_Itoa Tryd.laysM171 n h0 h1 w htab
def Tryd.lays171_ren : Go.Shelf.Ren := ⟨fun | 171 => 58 | 243 => 69 | 246 => 85 | 283 => 74 | 284 => 75 | 285 => 76 | 286 => 77 | 129 => 87 | 317 => 86 | 318 => 88 | 319 => 89 | 320 => 90 | 337 => 96 | 338 => 97 | n => n, fun | 3 => 3 | 9 => 9 | 2 => 2 | 4 => 4 | 171 => 165 | 0 => 0 | 53 => 71 | 37 => 50 | 5 => 5 | 173 => 168 | 212 => 188 | 51 => 189 | 20 => 20 | 213 => 190 | 46 => 192 | 232 => 209 | 233 => 210 | n => n, fun | 17 => 3 | 18 => 8 | 19 => 9 | n => n⟩
theorem Tryd.lays171 : Go.Proofs.Lays.n171 Tryd.prog Tryd.lays171_ren := {
  mixed := by kernel_rfl
  f129 := Tryd.func87.trans (congrArg some (by kernel_rfl))
  f171 := Tryd.func58.trans (congrArg some (by kernel_rfl))
  f243 := Tryd.func69.trans (congrArg some (by kernel_rfl))
  f246 := Tryd.func85.trans (congrArg some (by kernel_rfl))
  f283 := Tryd.func74.trans (congrArg some (by kernel_rfl))
  f284 := Tryd.func75.trans (congrArg some (by kernel_rfl))
  f285 := Tryd.func76.trans (congrArg some (by kernel_rfl))
  f286 := Tryd.func77.trans (congrArg some (by kernel_rfl))
  f317 := Tryd.func86.trans (congrArg some (by kernel_rfl))
  f318 := Tryd.func88.trans (congrArg some (by kernel_rfl))
  f319 := Tryd.func89.trans (congrArg some (by kernel_rfl))
  f320 := Tryd.func90.trans (congrArg some (by kernel_rfl))
  f337 := Tryd.func96.trans (congrArg some (by kernel_rfl))
  f338 := Tryd.func97.trans (congrArg some (by kernel_rfl))
  t0 := Tryd.underlying0
  a0 := Tryd.isAgg0
  z0 := Tryd.sizeOf0
  v0 := Tryd.zeroValue0
  t2 := Tryd.underlying2
  a2 := Tryd.isAgg2
  z2 := Tryd.sizeOf2
  v2 := Tryd.zeroValue2
  t3 := Tryd.underlying3
  a3 := Tryd.isAgg3
  z3 := Tryd.sizeOf3
  v3 := Tryd.zeroValue3
  t4 := Tryd.underlying4
  a4 := Tryd.isAgg4
  z4 := Tryd.sizeOf4
  v4 := Tryd.zeroValue4
  t5 := Tryd.underlying5
  a5 := Tryd.isAgg5
  z5 := Tryd.sizeOf5
  v5 := Tryd.zeroValue5
  t9 := Tryd.underlying9
  a9 := Tryd.isAgg9
  z9 := Tryd.sizeOf9
  v9 := Tryd.zeroValue9
  t20 := Tryd.underlying20
  a20 := Tryd.isAgg20
  z20 := Tryd.sizeOf20
  v20 := Tryd.zeroValue20
  t37 := Tryd.underlying50
  a37 := Tryd.isAgg50
  z37 := Tryd.sizeOf50
  v37 := Tryd.zeroValue50
  t46 := Tryd.underlying192
  a46 := Tryd.isAgg192
  z46 := Tryd.sizeOf192
  v46 := Tryd.zeroValue192
  t51 := Tryd.underlying189
  a51 := Tryd.isAgg189
  z51 := Tryd.sizeOf189
  v51 := Tryd.zeroValue189
  t53 := Tryd.underlying71
  a53 := Tryd.isAgg71
  z53 := Tryd.sizeOf71
  v53 := Tryd.zeroValue71
  t171 := Tryd.underlying165
  a171 := Tryd.isAgg165
  z171 := Tryd.sizeOf165
  v171 := Tryd.zeroValue165
  t173 := Tryd.underlying168
  a173 := Tryd.isAgg168
  z173 := Tryd.sizeOf168
  v173 := Tryd.zeroValue168
  t212 := Tryd.underlying188
  a212 := Tryd.isAgg188
  z212 := Tryd.sizeOf188
  v212 := Tryd.zeroValue188
  t213 := Tryd.underlying190
  a213 := Tryd.isAgg190
  z213 := Tryd.sizeOf190
  t232 := Tryd.underlying209
  a232 := Tryd.isAgg209
  z232 := Tryd.sizeOf209
  v232 := Tryd.zeroValue209
  t233 := Tryd.underlying210
  a233 := Tryd.isAgg210
  z233 := Tryd.sizeOf210
  v233 := Tryd.zeroValue210
  g17 := by kernel_rfl
  g18 := by kernel_rfl
  g19 := by kernel_rfl }
open Go.RowKit Go.Sort Go.Lib in
/-- THE ROAD WITHOUT THE TABLE: 0 <= i < 100: NO PREMISE ON THE WORLD, AND THE WORLD IS AS IT WAS: a row that keeps its argument in that range need list no table ('laid = []'). (LAID: no walk: one application.) -/
theorem Tryd.strconv_Itoa_small (i : Nat) (hi : i < 100) (w : World) :
    Calls Tryd.prog 58 #[.int .i64 i] w fun e w' => e = .returned (.string ⟨(Lib.decDigits i).toArray⟩) ∧ w' = w := Any.strconv_Itoa_small Tryd.lays171 i hi w
def Tryd.laysM181_ren : Go.Shelf.Ren := ⟨fun | 181 => 118 | n => n, fun | 130 => 65 | 3 => 3 | 0 => 0 | 93 => 54 | 37 => 50 | 91 => 52 | 5 => 5 | n => n, fun | n => n⟩
theorem Tryd.laysM181 : Go.Proofs.LaysM.n181 Tryd.prog Tryd.laysM181_ren := {
  mixed := by kernel_rfl
  f181 := Tryd.func118.trans (congrArg some (by kernel_rfl))
  t0 := Tryd.underlying0
  a0 := Tryd.isAgg0
  z0 := Tryd.sizeOf0
  v0 := Tryd.zeroValue0
  t3 := Tryd.underlying3
  a3 := Tryd.isAgg3
  z3 := Tryd.sizeOf3
  v3 := Tryd.zeroValue3
  t37 := Tryd.underlying50
  a37 := Tryd.isAgg50
  z37 := Tryd.sizeOf50
  v37 := Tryd.zeroValue50
  t93 := Tryd.underlying54
  a93 := Tryd.isAgg54
  z93 := Tryd.sizeOf54
  v93 := Tryd.zeroValue54
  t130 := Tryd.underlying65
  a130 := Tryd.isAgg65
  z130 := Tryd.sizeOf65
  v130 := Tryd.zeroValue65
  t5 := Tryd.underlying5
  a5 := Tryd.isAgg5
  z5 := Tryd.sizeOf5
  v5 := Tryd.zeroValue5
  t91 := Tryd.underlying52
  a91 := Tryd.isAgg52
  z91 := Tryd.sizeOf52
  v91 := Tryd.zeroValue52
  i0 := by kernel_rfl
  i3 := by kernel_rfl
  i5 := by kernel_rfl
  i37 := by kernel_rfl
  i91 := by kernel_rfl
  i93 := by kernel_rfl
  i130 := by kernel_rfl }
open Go.RowKit in
/-- (*bytes.Buffer).Len: "Len returns the number of bytes of the unread portion of the buffer; b.Len() == len(b.Bytes()).": the world is as it was but for the count of draws (the statement has two reads: its order is drawn). (LAID: no walk: one application.) -/
theorem Tryd.Buffer_Len (B b : Nat) (bs : List Value) (w : World) (h : Lib.IsBuffer 54 5 B b bs w) :
    Calls Tryd.prog 118 #[.pointer (some ⟨b, 0, none⟩)] w fun e w' => e = .returned (.int .i64 bs.length) ∧ ∃ n, w' = w.drewN n := Any.Buffer_Len Tryd.laysM181 B b bs w h
def Tryd.laysM251_ren : Go.Shelf.Ren := ⟨fun | 251 => 126 | n => n, fun | 130 => 65 | 3 => 3 | 4 => 4 | 0 => 0 | 93 => 54 | 37 => 50 | 91 => 52 | 5 => 5 | n => n, fun | n => n⟩
theorem Tryd.laysM251 : Go.Proofs.LaysM.n251 Tryd.prog Tryd.laysM251_ren := {
  mixed := by kernel_rfl
  f251 := Tryd.func126.trans (congrArg some (by kernel_rfl))
  t0 := Tryd.underlying0
  a0 := Tryd.isAgg0
  z0 := Tryd.sizeOf0
  v0 := Tryd.zeroValue0
  t3 := Tryd.underlying3
  a3 := Tryd.isAgg3
  z3 := Tryd.sizeOf3
  v3 := Tryd.zeroValue3
  t4 := Tryd.underlying4
  a4 := Tryd.isAgg4
  z4 := Tryd.sizeOf4
  v4 := Tryd.zeroValue4
  t37 := Tryd.underlying50
  a37 := Tryd.isAgg50
  z37 := Tryd.sizeOf50
  v37 := Tryd.zeroValue50
  t93 := Tryd.underlying54
  a93 := Tryd.isAgg54
  z93 := Tryd.sizeOf54
  v93 := Tryd.zeroValue54
  t130 := Tryd.underlying65
  a130 := Tryd.isAgg65
  z130 := Tryd.sizeOf65
  v130 := Tryd.zeroValue65
  t5 := Tryd.underlying5
  a5 := Tryd.isAgg5
  z5 := Tryd.sizeOf5
  v5 := Tryd.zeroValue5
  t91 := Tryd.underlying52
  a91 := Tryd.isAgg52
  z91 := Tryd.sizeOf52
  v91 := Tryd.zeroValue52
  i0 := by kernel_rfl
  i3 := by kernel_rfl
  i4 := by kernel_rfl
  i5 := by kernel_rfl
  i37 := by kernel_rfl
  i91 := by kernel_rfl
  i93 := by kernel_rfl
  i130 := by kernel_rfl }
open Go.RowKit in
/-- (*bytes.Buffer).tryGrowByReslice: "tryGrowByReslice is an inlineable version of grow for the fast-case where the internal buffer only needs to be resliced. It returns the index where bytes should be written and whether it succeeded.": THERE IS ROOM: 'buf' is resliced to l + n. (LAID: no walk: one application.) -/
theorem Tryd.Buffer_tryGrow_room (b : Nat) (ao : Option Addr) (l cap n : Nat) (w : World) (c0 : w.cell? ⟨b, 0, none⟩ = some (.slice ao l cap)) (f0 : w.frozen? ⟨b, 0, none⟩ = false) (hlc : l ≤ cap) (hcap : cap ≤ maxLen) (hn : n ≤ cap - l) :
    Calls Tryd.prog 126 #[.pointer (some ⟨b, 0, none⟩), .int .i64 n] w fun e w' => e = .returned (.tuple #[.int .i64 l, .bool true]) ∧ w' = w.setCell ⟨b, 0, none⟩ (.slice ao (l + n) cap) := Any.Buffer_tryGrow_room Tryd.laysM251 b ao l cap n w c0 f0 hlc hcap hn
open Go.RowKit in
/-- .. THERE IS NONE: nothing turns. (LAID: no walk: one application.) -/
theorem Tryd.Buffer_tryGrow_none (b : Nat) (ao : Option Addr) (l cap n : Nat) (w : World) (c0 : w.cell? ⟨b, 0, none⟩ = some (.slice ao l cap)) (hlc : l ≤ cap) (hcap : cap ≤ maxLen) (hn : cap - l < n) :
    Calls Tryd.prog 126 #[.pointer (some ⟨b, 0, none⟩), .int .i64 n] w fun e w' => e = .returned (.tuple #[.int .i64 0, .bool false]) ∧ w' = w := Any.Buffer_tryGrow_none Tryd.laysM251 b ao l cap n w c0 hlc hcap hn
def Tryd.laysM324_ren : Go.Shelf.Ren := ⟨fun | 324 => 128 | n => n, fun | 20 => 20 | 4 => 4 | 75 => 56 | 0 => 0 | 80 => 68 | 9 => 9 | n => n, fun | 14 => 12 | n => n⟩
theorem Tryd.laysM324 : Go.Proofs.LaysM.n324 Tryd.prog Tryd.laysM324_ren := {
  mixed := by kernel_rfl
  f324 := Tryd.func128.trans (congrArg some (by kernel_rfl))
  t0 := Tryd.underlying0
  a0 := Tryd.isAgg0
  z0 := Tryd.sizeOf0
  v0 := Tryd.zeroValue0
  t4 := Tryd.underlying4
  a4 := Tryd.isAgg4
  z4 := Tryd.sizeOf4
  v4 := Tryd.zeroValue4
  t20 := Tryd.underlying20
  a20 := Tryd.isAgg20
  z20 := Tryd.sizeOf20
  v20 := Tryd.zeroValue20
  t75 := Tryd.underlying56
  a75 := Tryd.isAgg56
  z75 := Tryd.sizeOf56
  v75 := Tryd.zeroValue56
  g14 := by kernel_rfl
  t9 := Tryd.underlying9
  a9 := Tryd.isAgg9
  z9 := Tryd.sizeOf9
  v9 := Tryd.zeroValue9
  t80 := Tryd.underlying68
  a80 := Tryd.isAgg68
  z80 := Tryd.sizeOf68
  v80 := Tryd.zeroValue68
  i0 := by kernel_rfl
  i4 := by kernel_rfl
  i9 := by kernel_rfl
  i20 := by kernel_rfl
  i75 := by kernel_rfl
  i80 := by kernel_rfl
  m14 := by kernel_rfl }
theorem Tryd.growSlice_catch_idle (w : World) :
    CallsD Tryd.prog 128 #[] .returning w fun e u' w' => e = .returned (.tuple #[]) ∧ u' = .returning ∧ w' = w := Any.growSlice_catch_idle Tryd.laysM324 w
def Tryd.laysM290_ren : Go.Shelf.Ren := ⟨fun | 290 => 127 | 324 => 128 | n => n, fun | 37 => 50 | 3 => 3 | 0 => 0 | 4 => 4 | 20 => 20 | 75 => 56 | 5 => 5 | 80 => 68 | 9 => 9 | n => n, fun | 14 => 12 | n => n⟩
theorem Tryd.laysM290 : Go.Proofs.LaysM.n290 Tryd.prog Tryd.laysM290_ren := {
  mixed := by kernel_rfl
  f290 := Tryd.func127.trans (congrArg some (by kernel_rfl))
  f324 := Tryd.func128.trans (congrArg some (by kernel_rfl))
  t0 := Tryd.underlying0
  a0 := Tryd.isAgg0
  z0 := Tryd.sizeOf0
  v0 := Tryd.zeroValue0
  t3 := Tryd.underlying3
  a3 := Tryd.isAgg3
  z3 := Tryd.sizeOf3
  v3 := Tryd.zeroValue3
  t4 := Tryd.underlying4
  a4 := Tryd.isAgg4
  z4 := Tryd.sizeOf4
  v4 := Tryd.zeroValue4
  t20 := Tryd.underlying20
  a20 := Tryd.isAgg20
  z20 := Tryd.sizeOf20
  v20 := Tryd.zeroValue20
  t37 := Tryd.underlying50
  a37 := Tryd.isAgg50
  z37 := Tryd.sizeOf50
  v37 := Tryd.zeroValue50
  t75 := Tryd.underlying56
  a75 := Tryd.isAgg56
  z75 := Tryd.sizeOf56
  v75 := Tryd.zeroValue56
  g14 := by kernel_rfl
  t5 := Tryd.underlying5
  a5 := Tryd.isAgg5
  z5 := Tryd.sizeOf5
  v5 := Tryd.zeroValue5
  t9 := Tryd.underlying9
  a9 := Tryd.isAgg9
  z9 := Tryd.sizeOf9
  v9 := Tryd.zeroValue9
  t80 := Tryd.underlying68
  a80 := Tryd.isAgg68
  z80 := Tryd.sizeOf68
  v80 := Tryd.zeroValue68
  i0 := by kernel_rfl
  i3 := by kernel_rfl
  i4 := by kernel_rfl
  i5 := by kernel_rfl
  i9 := by kernel_rfl
  i20 := by kernel_rfl
  i37 := by kernel_rfl
  i75 := by kernel_rfl
  i80 := by kernel_rfl
  m14 := by kernel_rfl }
open Go.RowKit in
/-- bytes.growSlice: "growSlice grows b by n, preserving the original content of b.": OF A SLICE THAT LIES AT THE HEAD OF A ROW: a new row, number 'w.heap.size': it begins with b's l cells; its capacity has room for n more; whatever lay below is as it was. (LAID: no walk: one application.) -/
theorem Tryd.bytes_growSlice_row (g l c n : Nat) (cur : Array Value) (w : World) (hg : w.heap[g]? = some (.cells cur 5 (0, 0))) (hcs : cur.size = c) (hlc : l ≤ c) (hn : 1 ≤ n) (hlim : l + n ≤ 140737488355328) (hc2 : c ≤ 140737488355328) (h1 : ∀ v ∈ cur.toList.take l, v.oneCell' = true) :
    Calls Tryd.prog 127 #[.slice (some ⟨g, 0, none⟩) l c, .int .i64 n] w fun e w' => ∃ cap2 cells, e = .returned (.slice (some ⟨w.heap.size, 0, none⟩) l cap2) ∧ w'.heap[w.heap.size]? = some (.cells cells 5 (0, 0)) ∧
      cells.size = cap2 ∧ cells.toList.take l = cur.toList.take l ∧ l + n ≤ cap2 ∧ cap2 ≤ maxLen ∧ Below w.heap.size w w' := Any.bytes_growSlice_row Tryd.laysM290 g l c n cur w hg hcs hlc hn hlim hc2 h1
open Go.RowKit in
/-- .. OF THE NIL SLICE: a new row with room for n. (LAID: no walk: one application.) -/
theorem Tryd.bytes_growSlice_nil (n : Nat) (w : World) (hn : 1 ≤ n) (hlim : n ≤ 140737488355328) :
    Calls Tryd.prog 127 #[.slice none 0 0, .int .i64 n] w fun e w' => ∃ cap2 cells, e = .returned (.slice (some ⟨w.heap.size, 0, none⟩) 0 cap2) ∧ w'.heap[w.heap.size]? = some (.cells cells 5 (0, 0)) ∧
      cells.size = cap2 ∧ n ≤ cap2 ∧ cap2 ≤ maxLen ∧ Below w.heap.size w w' := Any.bytes_growSlice_nil Tryd.laysM290 n w hn hlim
def Tryd.laysM182_ren : Go.Shelf.Ren := ⟨fun | 182 => 28 | n => n, fun | 130 => 65 | 9 => 9 | 4 => 4 | 0 => 0 | 93 => 54 | 37 => 50 | 3 => 3 | 91 => 52 | 5 => 5 | n => n, fun | n => n⟩
theorem Tryd.laysM182 : Go.Proofs.LaysM.n182 Tryd.prog Tryd.laysM182_ren := {
  mixed := by kernel_rfl
  f182 := Tryd.func28.trans (congrArg some (by kernel_rfl))
  t0 := Tryd.underlying0
  a0 := Tryd.isAgg0
  z0 := Tryd.sizeOf0
  v0 := Tryd.zeroValue0
  t3 := Tryd.underlying3
  a3 := Tryd.isAgg3
  z3 := Tryd.sizeOf3
  v3 := Tryd.zeroValue3
  t4 := Tryd.underlying4
  a4 := Tryd.isAgg4
  z4 := Tryd.sizeOf4
  v4 := Tryd.zeroValue4
  t9 := Tryd.underlying9
  a9 := Tryd.isAgg9
  z9 := Tryd.sizeOf9
  v9 := Tryd.zeroValue9
  t37 := Tryd.underlying50
  a37 := Tryd.isAgg50
  z37 := Tryd.sizeOf50
  v37 := Tryd.zeroValue50
  t93 := Tryd.underlying54
  a93 := Tryd.isAgg54
  z93 := Tryd.sizeOf54
  v93 := Tryd.zeroValue54
  t130 := Tryd.underlying65
  a130 := Tryd.isAgg65
  z130 := Tryd.sizeOf65
  v130 := Tryd.zeroValue65
  t5 := Tryd.underlying5
  a5 := Tryd.isAgg5
  z5 := Tryd.sizeOf5
  v5 := Tryd.zeroValue5
  t91 := Tryd.underlying52
  a91 := Tryd.isAgg52
  z91 := Tryd.sizeOf52
  v91 := Tryd.zeroValue52
  i0 := by kernel_rfl
  i3 := by kernel_rfl
  i4 := by kernel_rfl
  i5 := by kernel_rfl
  i9 := by kernel_rfl
  i37 := by kernel_rfl
  i91 := by kernel_rfl
  i93 := by kernel_rfl
  i130 := by kernel_rfl }
open Go.RowKit in
/-- (*bytes.Buffer).String: "String returns the contents of the unread portion of the buffer as a string.": THE BYTES THAT WERE WRITTEN. The world is as it was but for the count of draws (the statement has two reads: its order is drawn). (LAID: no walk: one application.) -/
theorem Tryd.Buffer_String (B b : Nat) (l : List UInt8) (w : World) (h : Lib.IsBuffer 54 5 B b (Lib.byteCells l) w) :
    Calls Tryd.prog 28 #[.pointer (some ⟨b, 0, none⟩)] w fun e w' => e = .returned (.string ⟨l.toArray⟩) ∧ ∃ n, w' = w.drewN n := Any.Buffer_String Tryd.laysM182 B b l w h
def Tryd.laysM252_ren : Go.Shelf.Ren := ⟨fun | 252 => 125 | 181 => 118 | 184 => 121 | 251 => 126 | 290 => 127 | 324 => 128 | n => n, fun | 130 => 65 | 3 => 3 | 4 => 4 | 0 => 0 | 93 => 54 | 131 => 231 | 37 => 50 | 75 => 56 | 91 => 52 | 20 => 20 | 5 => 5 | 80 => 68 | 9 => 9 | n => n, fun | 14 => 12 | n => n⟩
theorem Tryd.laysM252 : Go.Proofs.LaysM.n252 Tryd.prog Tryd.laysM252_ren := {
  mixed := by kernel_rfl
  f181 := Tryd.func118.trans (congrArg some (by kernel_rfl))
  f184 := Tryd.func121.trans (congrArg some (by kernel_rfl))
  f251 := Tryd.func126.trans (congrArg some (by kernel_rfl))
  f252 := Tryd.func125.trans (congrArg some (by kernel_rfl))
  f290 := Tryd.func127.trans (congrArg some (by kernel_rfl))
  f324 := Tryd.func128.trans (congrArg some (by kernel_rfl))
  t0 := Tryd.underlying0
  a0 := Tryd.isAgg0
  z0 := Tryd.sizeOf0
  v0 := Tryd.zeroValue0
  t3 := Tryd.underlying3
  a3 := Tryd.isAgg3
  z3 := Tryd.sizeOf3
  v3 := Tryd.zeroValue3
  t4 := Tryd.underlying4
  a4 := Tryd.isAgg4
  z4 := Tryd.sizeOf4
  v4 := Tryd.zeroValue4
  t20 := Tryd.underlying20
  a20 := Tryd.isAgg20
  z20 := Tryd.sizeOf20
  v20 := Tryd.zeroValue20
  t37 := Tryd.underlying50
  a37 := Tryd.isAgg50
  z37 := Tryd.sizeOf50
  v37 := Tryd.zeroValue50
  t75 := Tryd.underlying56
  a75 := Tryd.isAgg56
  z75 := Tryd.sizeOf56
  v75 := Tryd.zeroValue56
  t91 := Tryd.underlying52
  a91 := Tryd.isAgg52
  z91 := Tryd.sizeOf52
  v91 := Tryd.zeroValue52
  t93 := Tryd.underlying54
  a93 := Tryd.isAgg54
  z93 := Tryd.sizeOf54
  v93 := Tryd.zeroValue54
  t130 := Tryd.underlying65
  a130 := Tryd.isAgg65
  z130 := Tryd.sizeOf65
  v130 := Tryd.zeroValue65
  t131 := Tryd.underlying231
  a131 := Tryd.isAgg231
  z131 := Tryd.sizeOf231
  v131 := Tryd.zeroValue231
  g14 := by kernel_rfl
  t5 := Tryd.underlying5
  a5 := Tryd.isAgg5
  z5 := Tryd.sizeOf5
  v5 := Tryd.zeroValue5
  t9 := Tryd.underlying9
  a9 := Tryd.isAgg9
  z9 := Tryd.sizeOf9
  v9 := Tryd.zeroValue9
  t80 := Tryd.underlying68
  a80 := Tryd.isAgg68
  z80 := Tryd.sizeOf68
  v80 := Tryd.zeroValue68
  i0 := by kernel_rfl
  i3 := by kernel_rfl
  i4 := by kernel_rfl
  i5 := by kernel_rfl
  i9 := by kernel_rfl
  i20 := by kernel_rfl
  i37 := by kernel_rfl
  i75 := by kernel_rfl
  i80 := by kernel_rfl
  i91 := by kernel_rfl
  i93 := by kernel_rfl
  i130 := by kernel_rfl
  i131 := by kernel_rfl
  m14 := by kernel_rfl }
open Go.RowKit in
/-- grow, WHERE THE BUFFER HOLDS A ROW, NO BYTE IN IT (behind a Reset), AND THE ROW HAS NO ROOM: growSlice. (THE TEXT OF 'Buffer_grow_row' WITH 0 FOR l, BY PROGRAM: the walk parts on 'm == 0' and writes 0 for l throughout the goal: facts that still say l then do not strike: so l is laid in ahead of the walk.) (LAID: no walk: one application.) -/
theorem Tryd.Buffer_grow_row0_own (B b g cap n : Nat) (lr : Int) (cur : Array Value) (bs : List Value) (w : World) (hB : B ≤ b) (hBw : B ≤ w.heap.size) (hbk : w.heap[b]? = some (.cells #[.slice (some ⟨g, 0, none⟩) 0 cap, .int .i64 0, .int .i8 lr] 54 (0, 0))) (hl : bs.length = 0) (hBg : B ≤ g) (hg : w.heap[g]? = some (.cells cur 5 (0, 0))) (hlc : 0 ≤ cap) (hcm : cap ≤ maxLen) (hcs : cur.size = cap) (htake : cur.toList.take 0 = bs) (hgb : g ≠ b) (h1 : ∀ v ∈ bs, v.oneCell' = true) (hn : 1 ≤ n) (hroom : cap - 0 < n) (hlim : 0 + n ≤ 140737488355328) :
    Calls Tryd.prog 125 #[.pointer (some ⟨b, 0, none⟩), .int .i64 n] w fun e w' => e = .returned (.int .i64 0) ∧ ∃ xs, xs.length = n ∧ Lib.IsBuffer 54 5 B b (bs ++ xs) w' ∧ Below B w w' ∧ Lib.OthersKept 5 (some b) w w' ∧ w.grownBy w' (some b) := Any.Buffer_grow_row0_own Tryd.laysM252 B b g cap n lr cur bs w hB hBw hbk hl hBg hg hlc hcm hcs htake hgb h1 hn hroom hlim
open Go.RowKit in
/-- grow, WHERE THE BUFFER HOLDS A ROW THAT HAS NO ROOM: growSlice. (LAID: no walk: one application.) -/
theorem Tryd.Buffer_grow_row_own (B b g l cap n : Nat) (lr : Int) (cur : Array Value) (bs : List Value) (w : World) (hB : B ≤ b) (hBw : B ≤ w.heap.size) (hbk : w.heap[b]? = some (.cells #[.slice (some ⟨g, 0, none⟩) l cap, .int .i64 0, .int .i8 lr] 54 (0, 0))) (hl : bs.length = l) (hBg : B ≤ g) (hg : w.heap[g]? = some (.cells cur 5 (0, 0))) (hlc : l ≤ cap) (hcm : cap ≤ maxLen) (hcs : cur.size = cap) (htake : cur.toList.take l = bs) (hgb : g ≠ b) (h1 : ∀ v ∈ bs, v.oneCell' = true) (hn : 1 ≤ n) (hroom : cap - l < n) (hlim : l + n ≤ 140737488355328) :
    Calls Tryd.prog 125 #[.pointer (some ⟨b, 0, none⟩), .int .i64 n] w fun e w' => e = .returned (.int .i64 l) ∧ ∃ xs, xs.length = n ∧ Lib.IsBuffer 54 5 B b (bs ++ xs) w' ∧ Below B w w' ∧ Lib.OthersKept 5 (some b) w w' ∧ w.grownBy w' (some b) := Any.Buffer_grow_row_own Tryd.laysM252 B b g l cap n lr cur bs w hB hBw hbk hl hBg hg hlc hcm hcs htake hgb h1 hn hroom hlim
open Go.RowKit in
/-- grow, 'buf' nil, n AT MOST 64: 'b.buf = make([]byte, n, smallBufferSize)'. (LAID: no walk: one application.) -/
theorem Tryd.Buffer_grow_nil_small_own (B b n : Nat) (lr : Int) (w : World) (hB : B ≤ b) (hBw : B ≤ w.heap.size) (hbk : w.heap[b]? = some (.cells #[.slice none 0 0, .int .i64 0, .int .i8 lr] 54 (0, 0))) (hn : 1 ≤ n) (h64 : n ≤ 64) :
    Calls Tryd.prog 125 #[.pointer (some ⟨b, 0, none⟩), .int .i64 n] w fun e w' => e = .returned (.int .i64 0) ∧ ∃ xs, xs.length = n ∧ Lib.IsBuffer 54 5 B b xs w' ∧ Below B w w' ∧ Lib.OthersKept 5 (some b) w w' ∧ w.grownBy w' (some b) := Any.Buffer_grow_nil_small_own Tryd.laysM252 B b n lr w hB hBw hbk hn h64
open Go.RowKit in
/-- grow, 'buf' nil, n ABOVE 64: growSlice of the nil slice. (LAID: no walk: one application.) -/
theorem Tryd.Buffer_grow_nil_big_own (B b n : Nat) (lr : Int) (w : World) (hB : B ≤ b) (hBw : B ≤ w.heap.size) (hbk : w.heap[b]? = some (.cells #[.slice none 0 0, .int .i64 0, .int .i8 lr] 54 (0, 0))) (h64 : 64 < n) (hlim : n ≤ 140737488355328) :
    Calls Tryd.prog 125 #[.pointer (some ⟨b, 0, none⟩), .int .i64 n] w fun e w' => e = .returned (.int .i64 0) ∧ ∃ xs, xs.length = n ∧ Lib.IsBuffer 54 5 B b xs w' ∧ Below B w w' ∧ Lib.OthersKept 5 (some b) w w' ∧ w.grownBy w' (some b) := Any.Buffer_grow_nil_big_own Tryd.laysM252 B b n lr w hB hBw hbk h64 hlim
open Go.RowKit in
/-- tryGrowByReslice: EITHER there is room: the place to write at is the old length, and the buffer holds the old bytes and n more of whatever lay there; OR there is none: nothing turns, and 'Lib.NoRoom' is what grow asks. (LAID: no walk: one application.) -/
theorem Tryd.Buffer_tryGrow_own (B b n : Nat) (bs : List Value) (w : World) (h : Lib.IsBuffer 54 5 B b bs w) :
    Calls Tryd.prog 126 #[.pointer (some ⟨b, 0, none⟩), .int .i64 n] w fun e w' =>
      (e = .returned (.tuple #[.int .i64 bs.length, .bool true]) ∧ ∃ xs, xs.length = n ∧ Lib.IsBuffer 54 5 B b (bs ++ xs) w' ∧ Below B w w' ∧ Lib.OthersKept 5 (some b) w w' ∧ w.grownBy w' (some b)) ∨
      (e = .returned (.tuple #[.int .i64 0, .bool false]) ∧ w' = w ∧ Lib.NoRoom b n w) := Any.Buffer_tryGrow_own Tryd.laysM251 B b n bs w h
open Go.RowKit in
/-- (*bytes.Buffer).grow: "grow grows the buffer to guarantee space for n more bytes. It returns the index where bytes should be written.": WHERE THERE IS NO ROOM; UNDER Go's OWN LIMIT (the new length takes at most 2^47 bytes): the old length; the buffer holds the old bytes and n more of whatever. (LAID: no walk: one application.) -/
theorem Tryd.Buffer_grow_own (B b n : Nat) (bs : List Value) (w : World) (h : Lib.IsBuffer 54 5 B b bs w) (hnr : Lib.NoRoom b n w) (hBw : B ≤ w.heap.size) (h1 : ∀ v ∈ bs, v.oneCell' = true) (hlim : bs.length + n ≤ 140737488355328) :
    Calls Tryd.prog 125 #[.pointer (some ⟨b, 0, none⟩), .int .i64 n] w fun e w' => e = .returned (.int .i64 bs.length) ∧ ∃ xs, xs.length = n ∧ Lib.IsBuffer 54 5 B b (bs ++ xs) w' ∧ Below B w w' ∧ Lib.OthersKept 5 (some b) w w' ∧ w.grownBy w' (some b) := Any.Buffer_grow_own Tryd.laysM252 B b n bs w h hnr hBw h1 hlim
def Tryd.laysM180_ren : Go.Shelf.Ren := ⟨fun | 180 => 122 | 251 => 126 | 252 => 125 | 181 => 118 | 184 => 121 | 290 => 127 | 324 => 128 | n => n, fun | 130 => 65 | 37 => 50 | 3 => 3 | 75 => 56 | 0 => 0 | 93 => 54 | 91 => 52 | 131 => 231 | 4 => 4 | 20 => 20 | 5 => 5 | 80 => 68 | 9 => 9 | n => n, fun | 14 => 12 | n => n⟩
theorem Tryd.laysM180 : Go.Proofs.LaysM.n180 Tryd.prog Tryd.laysM180_ren := {
  mixed := by kernel_rfl
  f180 := Tryd.func122.trans (congrArg some (by kernel_rfl))
  f181 := Tryd.func118.trans (congrArg some (by kernel_rfl))
  f184 := Tryd.func121.trans (congrArg some (by kernel_rfl))
  f251 := Tryd.func126.trans (congrArg some (by kernel_rfl))
  f252 := Tryd.func125.trans (congrArg some (by kernel_rfl))
  f290 := Tryd.func127.trans (congrArg some (by kernel_rfl))
  f324 := Tryd.func128.trans (congrArg some (by kernel_rfl))
  t0 := Tryd.underlying0
  a0 := Tryd.isAgg0
  z0 := Tryd.sizeOf0
  v0 := Tryd.zeroValue0
  t3 := Tryd.underlying3
  a3 := Tryd.isAgg3
  z3 := Tryd.sizeOf3
  v3 := Tryd.zeroValue3
  t4 := Tryd.underlying4
  a4 := Tryd.isAgg4
  z4 := Tryd.sizeOf4
  v4 := Tryd.zeroValue4
  t20 := Tryd.underlying20
  a20 := Tryd.isAgg20
  z20 := Tryd.sizeOf20
  v20 := Tryd.zeroValue20
  t37 := Tryd.underlying50
  a37 := Tryd.isAgg50
  z37 := Tryd.sizeOf50
  v37 := Tryd.zeroValue50
  t75 := Tryd.underlying56
  a75 := Tryd.isAgg56
  z75 := Tryd.sizeOf56
  v75 := Tryd.zeroValue56
  t91 := Tryd.underlying52
  a91 := Tryd.isAgg52
  z91 := Tryd.sizeOf52
  v91 := Tryd.zeroValue52
  t93 := Tryd.underlying54
  a93 := Tryd.isAgg54
  z93 := Tryd.sizeOf54
  v93 := Tryd.zeroValue54
  t130 := Tryd.underlying65
  a130 := Tryd.isAgg65
  z130 := Tryd.sizeOf65
  v130 := Tryd.zeroValue65
  t131 := Tryd.underlying231
  a131 := Tryd.isAgg231
  z131 := Tryd.sizeOf231
  v131 := Tryd.zeroValue231
  g14 := by kernel_rfl
  t5 := Tryd.underlying5
  a5 := Tryd.isAgg5
  z5 := Tryd.sizeOf5
  v5 := Tryd.zeroValue5
  t9 := Tryd.underlying9
  a9 := Tryd.isAgg9
  z9 := Tryd.sizeOf9
  v9 := Tryd.zeroValue9
  t80 := Tryd.underlying68
  a80 := Tryd.isAgg68
  z80 := Tryd.sizeOf68
  v80 := Tryd.zeroValue68
  i0 := by kernel_rfl
  i3 := by kernel_rfl
  i4 := by kernel_rfl
  i5 := by kernel_rfl
  i9 := by kernel_rfl
  i20 := by kernel_rfl
  i37 := by kernel_rfl
  i75 := by kernel_rfl
  i80 := by kernel_rfl
  i91 := by kernel_rfl
  i93 := by kernel_rfl
  i130 := by kernel_rfl
  i131 := by kernel_rfl
  m14 := by kernel_rfl }
open Go.RowKit in
/-- (*bytes.Buffer).Write: "Write appends the contents of p to the buffer, growing the buffer as needed. The return value n is the length of p; err is always nil." (LAID: no walk: one application.) -/
theorem Tryd.Buffer_Write_any (B b : Nat) (bs cs : List Value) (a : Addr) (n c : Nat) (w : World) (h : Lib.IsBuffer 54 5 B b bs w) (hBw : B ≤ w.heap.size) (h1 : ∀ v ∈ bs, v.oneCell' = true) (hn : cs.length = n) (hab : a.block ≠ b) (hsrc : ∀ j v, cs[j]? = some v → w.cell? (a.add j) = some v) (h1c : ∀ v ∈ cs, v.oneCell' = true) (hlim : bs.length + n ≤ 140737488355328) :
    Calls Tryd.prog 122 #[.pointer (some ⟨b, 0, none⟩), .slice (some a) n c] w fun e w' => e = .returned (.tuple #[.int .i64 n, .nilIface]) ∧ Lib.IsBuffer 54 5 B b (bs ++ cs) w' ∧ Below B w w' ∧ Lib.OthersKept 5 (some b) w w' := Any.Buffer_Write_any Tryd.laysM180 B b bs cs a n c w h hBw h1 hn hab hsrc h1c hlim
def Tryd.laysM288_ren : Go.Shelf.Ren := ⟨fun | 288 => 60 | 283 => 74 | 284 => 75 | 285 => 76 | 286 => 77 | 129 => 87 | 317 => 86 | 318 => 88 | 319 => 89 | 320 => 90 | 337 => 96 | 338 => 97 | n => n, fun | 37 => 50 | 53 => 71 | 3 => 3 | 4 => 4 | 9 => 9 | 171 => 165 | 0 => 0 | 173 => 168 | 212 => 188 | 51 => 189 | 5 => 5 | 20 => 20 | 213 => 190 | 46 => 192 | 232 => 209 | 233 => 210 | n => n, fun | 17 => 3 | 18 => 8 | 19 => 9 | n => n⟩
theorem Tryd.laysM288 : Go.Proofs.LaysM.n288 Tryd.prog Tryd.laysM288_ren := {
  mixed := by kernel_rfl
  f129 := Tryd.func87.trans (congrArg some (by kernel_rfl))
  f283 := Tryd.func74.trans (congrArg some (by kernel_rfl))
  f284 := Tryd.func75.trans (congrArg some (by kernel_rfl))
  f285 := Tryd.func76.trans (congrArg some (by kernel_rfl))
  f286 := Tryd.func77.trans (congrArg some (by kernel_rfl))
  f288 := Tryd.func60.trans (congrArg some (by kernel_rfl))
  f317 := Tryd.func86.trans (congrArg some (by kernel_rfl))
  f318 := Tryd.func88.trans (congrArg some (by kernel_rfl))
  f319 := Tryd.func89.trans (congrArg some (by kernel_rfl))
  f320 := Tryd.func90.trans (congrArg some (by kernel_rfl))
  f337 := Tryd.func96.trans (congrArg some (by kernel_rfl))
  f338 := Tryd.func97.trans (congrArg some (by kernel_rfl))
  t0 := Tryd.underlying0
  a0 := Tryd.isAgg0
  z0 := Tryd.sizeOf0
  v0 := Tryd.zeroValue0
  t3 := Tryd.underlying3
  a3 := Tryd.isAgg3
  z3 := Tryd.sizeOf3
  v3 := Tryd.zeroValue3
  t4 := Tryd.underlying4
  a4 := Tryd.isAgg4
  z4 := Tryd.sizeOf4
  v4 := Tryd.zeroValue4
  t5 := Tryd.underlying5
  a5 := Tryd.isAgg5
  z5 := Tryd.sizeOf5
  v5 := Tryd.zeroValue5
  t9 := Tryd.underlying9
  a9 := Tryd.isAgg9
  z9 := Tryd.sizeOf9
  v9 := Tryd.zeroValue9
  t20 := Tryd.underlying20
  a20 := Tryd.isAgg20
  z20 := Tryd.sizeOf20
  v20 := Tryd.zeroValue20
  t37 := Tryd.underlying50
  a37 := Tryd.isAgg50
  z37 := Tryd.sizeOf50
  v37 := Tryd.zeroValue50
  t46 := Tryd.underlying192
  a46 := Tryd.isAgg192
  z46 := Tryd.sizeOf192
  v46 := Tryd.zeroValue192
  t51 := Tryd.underlying189
  a51 := Tryd.isAgg189
  z51 := Tryd.sizeOf189
  v51 := Tryd.zeroValue189
  t53 := Tryd.underlying71
  a53 := Tryd.isAgg71
  z53 := Tryd.sizeOf71
  v53 := Tryd.zeroValue71
  t171 := Tryd.underlying165
  a171 := Tryd.isAgg165
  z171 := Tryd.sizeOf165
  v171 := Tryd.zeroValue165
  t173 := Tryd.underlying168
  a173 := Tryd.isAgg168
  z173 := Tryd.sizeOf168
  v173 := Tryd.zeroValue168
  t212 := Tryd.underlying188
  a212 := Tryd.isAgg188
  z212 := Tryd.sizeOf188
  v212 := Tryd.zeroValue188
  t213 := Tryd.underlying190
  a213 := Tryd.isAgg190
  z213 := Tryd.sizeOf190
  t232 := Tryd.underlying209
  a232 := Tryd.isAgg209
  z232 := Tryd.sizeOf209
  v232 := Tryd.zeroValue209
  t233 := Tryd.underlying210
  a233 := Tryd.isAgg210
  z233 := Tryd.sizeOf210
  v233 := Tryd.zeroValue210
  g17 := by kernel_rfl
  g18 := by kernel_rfl
  g19 := by kernel_rfl
  i0 := by kernel_rfl
  i3 := by kernel_rfl
  i4 := by kernel_rfl
  i5 := by kernel_rfl
  i9 := by kernel_rfl
  i20 := by kernel_rfl
  i37 := by kernel_rfl
  i46 := by kernel_rfl
  i51 := by kernel_rfl
  i53 := by kernel_rfl
  i171 := by kernel_rfl
  i173 := by kernel_rfl
  i212 := by kernel_rfl
  i232 := by kernel_rfl
  i233 := by kernel_rfl
  m17 := by kernel_rfl
  m18 := by kernel_rfl
  m19 := by kernel_rfl }
open Go.RowKit Go.Sort Go.Lib in
/-- internal/strconv.AppendUint(dst, i, 10), i BELOW 100: WHAT COMES BACK OWNS dst's CELLS AND, BEHIND THEM, i's DECIMAL NUMERAL. No table is read. Below the call's own blocks nothing has turned. (LAID: no walk: one application.) -/
theorem Tryd.internal_strconv_AppendUint_10_small (B n u : Nat) (hu : u < 100) (sv : Value) (xs : List Value) (w : World) (hown : w.ownsRow B 5 1 sv n xs) (hBw : B ≤ w.heap.size) (hlim : n + 20 ≤ 140737488355328) :
    Calls Tryd.prog 60 #[sv, .int .u64 u, .int .i64 10] w fun e w' => ∃ v', e = .returned v' ∧ w'.ownsRow B 5 1 v' (n + (Lib.decDigits u).length) (xs ++ Lib.byteCells (Lib.decDigits u)) ∧ Below B w w' ∧ Lib.OthersKept 5 none w w' := Any.internal_strconv_AppendUint_10_small Tryd.laysM288 B n u hu sv xs w hown hBw hlim
open Go.RowKit Go.Sort Go.Lib in
/-- internal/strconv.AppendUint(dst, i, 10), i FROM 100 ON: likewise; the digits are laid in an array of the call's own and appended. (LAID: no walk: one application.) -/
theorem Tryd.internal_strconv_AppendUint_10_big (B n u : Nat) (hu : 100 ≤ u) (hu64 : u < 18446744073709551616) (sv : Value) (xs : List Value) (w : World) (hown : w.ownsRow B 5 1 sv n xs) (hBw : B ≤ w.heap.size) (hlim : n + 20 ≤ 140737488355328) (htab : Lib.TabIs Tryd.prog w "internal/strconv.uint64pow10" .u64 Lib.pow10Tab) :
    Calls Tryd.prog 60 #[sv, .int .u64 u, .int .i64 10] w fun e w' => ∃ v', e = .returned v' ∧ w'.ownsRow B 5 1 v' (n + (Lib.decDigits u).length) (xs ++ Lib.byteCells (Lib.decDigits u)) ∧ Below B w w' ∧ Lib.OthersKept 5 none w w' := Any.internal_strconv_AppendUint_10_big Tryd.laysM288 B n u hu hu64 sv xs w hown hBw hlim htab
open Go.RowKit Go.Sort Go.Lib in
/-- internal/strconv.AppendUint(dst, i, 10): the two contracts as one. NO WALK. (LAID: no walk: one application.) -/
theorem Tryd.internal_strconv_AppendUint_10 (B n u : Nat) (hu64 : u < 18446744073709551616) (sv : Value) (xs : List Value) (w : World) (hown : w.ownsRow B 5 1 sv n xs) (hBw : B ≤ w.heap.size) (hlim : n + 20 ≤ 140737488355328) (htab : Lib.TabIs Tryd.prog w "internal/strconv.uint64pow10" .u64 Lib.pow10Tab) :
    Calls Tryd.prog 60 #[sv, .int .u64 u, .int .i64 10] w fun e w' => ∃ v', e = .returned v' ∧ w'.ownsRow B 5 1 v' (n + (Lib.decDigits u).length) (xs ++ Lib.byteCells (Lib.decDigits u)) ∧ Below B w w' ∧ Lib.OthersKept 5 none w w' := Any.internal_strconv_AppendUint_10 Tryd.laysM288 B n u hu64 sv xs w hown hBw hlim htab
def Tryd.laysM249_ren : Go.Shelf.Ren := ⟨fun | 249 => 52 | 288 => 60 | 283 => 74 | 284 => 75 | 285 => 76 | 286 => 77 | 129 => 87 | 317 => 86 | 318 => 88 | 319 => 89 | 320 => 90 | 337 => 96 | 338 => 97 | n => n, fun | 37 => 50 | 2 => 2 | 3 => 3 | 53 => 71 | 4 => 4 | 9 => 9 | 171 => 165 | 0 => 0 | 173 => 168 | 212 => 188 | 51 => 189 | 5 => 5 | 20 => 20 | 213 => 190 | 46 => 192 | 232 => 209 | 233 => 210 | n => n, fun | 17 => 3 | 18 => 8 | 19 => 9 | n => n⟩
theorem Tryd.laysM249 : Go.Proofs.LaysM.n249 Tryd.prog Tryd.laysM249_ren := {
  mixed := by kernel_rfl
  f129 := Tryd.func87.trans (congrArg some (by kernel_rfl))
  f249 := Tryd.func52.trans (congrArg some (by kernel_rfl))
  f283 := Tryd.func74.trans (congrArg some (by kernel_rfl))
  f284 := Tryd.func75.trans (congrArg some (by kernel_rfl))
  f285 := Tryd.func76.trans (congrArg some (by kernel_rfl))
  f286 := Tryd.func77.trans (congrArg some (by kernel_rfl))
  f288 := Tryd.func60.trans (congrArg some (by kernel_rfl))
  f317 := Tryd.func86.trans (congrArg some (by kernel_rfl))
  f318 := Tryd.func88.trans (congrArg some (by kernel_rfl))
  f319 := Tryd.func89.trans (congrArg some (by kernel_rfl))
  f320 := Tryd.func90.trans (congrArg some (by kernel_rfl))
  f337 := Tryd.func96.trans (congrArg some (by kernel_rfl))
  f338 := Tryd.func97.trans (congrArg some (by kernel_rfl))
  t0 := Tryd.underlying0
  a0 := Tryd.isAgg0
  z0 := Tryd.sizeOf0
  v0 := Tryd.zeroValue0
  t2 := Tryd.underlying2
  a2 := Tryd.isAgg2
  z2 := Tryd.sizeOf2
  v2 := Tryd.zeroValue2
  t3 := Tryd.underlying3
  a3 := Tryd.isAgg3
  z3 := Tryd.sizeOf3
  v3 := Tryd.zeroValue3
  t4 := Tryd.underlying4
  a4 := Tryd.isAgg4
  z4 := Tryd.sizeOf4
  v4 := Tryd.zeroValue4
  t5 := Tryd.underlying5
  a5 := Tryd.isAgg5
  z5 := Tryd.sizeOf5
  v5 := Tryd.zeroValue5
  t9 := Tryd.underlying9
  a9 := Tryd.isAgg9
  z9 := Tryd.sizeOf9
  v9 := Tryd.zeroValue9
  t20 := Tryd.underlying20
  a20 := Tryd.isAgg20
  z20 := Tryd.sizeOf20
  v20 := Tryd.zeroValue20
  t37 := Tryd.underlying50
  a37 := Tryd.isAgg50
  z37 := Tryd.sizeOf50
  v37 := Tryd.zeroValue50
  t46 := Tryd.underlying192
  a46 := Tryd.isAgg192
  z46 := Tryd.sizeOf192
  v46 := Tryd.zeroValue192
  t51 := Tryd.underlying189
  a51 := Tryd.isAgg189
  z51 := Tryd.sizeOf189
  v51 := Tryd.zeroValue189
  t53 := Tryd.underlying71
  a53 := Tryd.isAgg71
  z53 := Tryd.sizeOf71
  v53 := Tryd.zeroValue71
  t171 := Tryd.underlying165
  a171 := Tryd.isAgg165
  z171 := Tryd.sizeOf165
  v171 := Tryd.zeroValue165
  t173 := Tryd.underlying168
  a173 := Tryd.isAgg168
  z173 := Tryd.sizeOf168
  v173 := Tryd.zeroValue168
  t212 := Tryd.underlying188
  a212 := Tryd.isAgg188
  z212 := Tryd.sizeOf188
  v212 := Tryd.zeroValue188
  t213 := Tryd.underlying190
  a213 := Tryd.isAgg190
  z213 := Tryd.sizeOf190
  t232 := Tryd.underlying209
  a232 := Tryd.isAgg209
  z232 := Tryd.sizeOf209
  v232 := Tryd.zeroValue209
  t233 := Tryd.underlying210
  a233 := Tryd.isAgg210
  z233 := Tryd.sizeOf210
  v233 := Tryd.zeroValue210
  g17 := by kernel_rfl
  g18 := by kernel_rfl
  g19 := by kernel_rfl
  i0 := by kernel_rfl
  i2 := by kernel_rfl
  i3 := by kernel_rfl
  i4 := by kernel_rfl
  i5 := by kernel_rfl
  i9 := by kernel_rfl
  i20 := by kernel_rfl
  i37 := by kernel_rfl
  i46 := by kernel_rfl
  i51 := by kernel_rfl
  i53 := by kernel_rfl
  i171 := by kernel_rfl
  i173 := by kernel_rfl
  i212 := by kernel_rfl
  i232 := by kernel_rfl
  i233 := by kernel_rfl
  m17 := by kernel_rfl
  m18 := by kernel_rfl
  m19 := by kernel_rfl }
open Go.RowKit Go.Sort Go.Lib in
/-- internal/strconv.AppendInt: "AppendInt appends the string form of the integer i, as generated by FormatInt, to dst and returns the extended buffer.": AT BASE 10: WHAT COMES BACK OWNS dst's CELLS AND, BEHIND THEM, i's DECIMAL NUMERAL ('Lib.itoa i': at most 20 bytes), for every int64. Below the call's own blocks nothing has turned. (LAID: no walk: one application.) -/
theorem Tryd.internal_strconv_AppendInt_10 (B n : Nat) (i : Int) (h0 : -9223372036854775808 ≤ i) (h1 : i ≤ 9223372036854775807) (sv : Value) (xs : List Value) (w : World) (hown : w.ownsRow B 5 1 sv n xs) (hBw : B ≤ w.heap.size) (hlim : n + 21 ≤ 140737488355328) (htab : Lib.TabBelow Tryd.prog B w "internal/strconv.uint64pow10" .u64 Lib.pow10Tab) :
    Calls Tryd.prog 52 #[sv, .int .i64 i, .int .i64 10] w fun e w' => ∃ v', e = .returned v' ∧ w'.ownsRow B 5 1 v' (n + (Lib.itoa i).length) (xs ++ Lib.byteCells (Lib.itoa i)) ∧ Below B w w' ∧ Lib.OthersKept 5 none w w' := Any.internal_strconv_AppendInt_10 Tryd.laysM249 B n i h0 h1 sv xs w hown hBw hlim htab
def Tryd.laysM176_ren : Go.Shelf.Ren := ⟨fun | 176 => 37 | 249 => 52 | 288 => 60 | 283 => 74 | 284 => 75 | 285 => 76 | 286 => 77 | 129 => 87 | 317 => 86 | 318 => 88 | 319 => 89 | 320 => 90 | 337 => 96 | 338 => 97 | n => n, fun | 37 => 50 | 2 => 2 | 3 => 3 | 53 => 71 | 4 => 4 | 9 => 9 | 171 => 165 | 0 => 0 | 173 => 168 | 212 => 188 | 51 => 189 | 5 => 5 | 20 => 20 | 213 => 190 | 46 => 192 | 232 => 209 | 233 => 210 | n => n, fun | 17 => 3 | 18 => 8 | 19 => 9 | n => n⟩
theorem Tryd.laysM176 : Go.Proofs.LaysM.n176 Tryd.prog Tryd.laysM176_ren := {
  mixed := by kernel_rfl
  f129 := Tryd.func87.trans (congrArg some (by kernel_rfl))
  f176 := Tryd.func37.trans (congrArg some (by kernel_rfl))
  f249 := Tryd.func52.trans (congrArg some (by kernel_rfl))
  f283 := Tryd.func74.trans (congrArg some (by kernel_rfl))
  f284 := Tryd.func75.trans (congrArg some (by kernel_rfl))
  f285 := Tryd.func76.trans (congrArg some (by kernel_rfl))
  f286 := Tryd.func77.trans (congrArg some (by kernel_rfl))
  f288 := Tryd.func60.trans (congrArg some (by kernel_rfl))
  f317 := Tryd.func86.trans (congrArg some (by kernel_rfl))
  f318 := Tryd.func88.trans (congrArg some (by kernel_rfl))
  f319 := Tryd.func89.trans (congrArg some (by kernel_rfl))
  f320 := Tryd.func90.trans (congrArg some (by kernel_rfl))
  f337 := Tryd.func96.trans (congrArg some (by kernel_rfl))
  f338 := Tryd.func97.trans (congrArg some (by kernel_rfl))
  t0 := Tryd.underlying0
  a0 := Tryd.isAgg0
  z0 := Tryd.sizeOf0
  v0 := Tryd.zeroValue0
  t2 := Tryd.underlying2
  a2 := Tryd.isAgg2
  z2 := Tryd.sizeOf2
  v2 := Tryd.zeroValue2
  t3 := Tryd.underlying3
  a3 := Tryd.isAgg3
  z3 := Tryd.sizeOf3
  v3 := Tryd.zeroValue3
  t4 := Tryd.underlying4
  a4 := Tryd.isAgg4
  z4 := Tryd.sizeOf4
  v4 := Tryd.zeroValue4
  t5 := Tryd.underlying5
  a5 := Tryd.isAgg5
  z5 := Tryd.sizeOf5
  v5 := Tryd.zeroValue5
  t9 := Tryd.underlying9
  a9 := Tryd.isAgg9
  z9 := Tryd.sizeOf9
  v9 := Tryd.zeroValue9
  t20 := Tryd.underlying20
  a20 := Tryd.isAgg20
  z20 := Tryd.sizeOf20
  v20 := Tryd.zeroValue20
  t37 := Tryd.underlying50
  a37 := Tryd.isAgg50
  z37 := Tryd.sizeOf50
  v37 := Tryd.zeroValue50
  t46 := Tryd.underlying192
  a46 := Tryd.isAgg192
  z46 := Tryd.sizeOf192
  v46 := Tryd.zeroValue192
  t51 := Tryd.underlying189
  a51 := Tryd.isAgg189
  z51 := Tryd.sizeOf189
  v51 := Tryd.zeroValue189
  t53 := Tryd.underlying71
  a53 := Tryd.isAgg71
  z53 := Tryd.sizeOf71
  v53 := Tryd.zeroValue71
  t171 := Tryd.underlying165
  a171 := Tryd.isAgg165
  z171 := Tryd.sizeOf165
  v171 := Tryd.zeroValue165
  t173 := Tryd.underlying168
  a173 := Tryd.isAgg168
  z173 := Tryd.sizeOf168
  v173 := Tryd.zeroValue168
  t212 := Tryd.underlying188
  a212 := Tryd.isAgg188
  z212 := Tryd.sizeOf188
  v212 := Tryd.zeroValue188
  t213 := Tryd.underlying190
  a213 := Tryd.isAgg190
  z213 := Tryd.sizeOf190
  t232 := Tryd.underlying209
  a232 := Tryd.isAgg209
  z232 := Tryd.sizeOf209
  v232 := Tryd.zeroValue209
  t233 := Tryd.underlying210
  a233 := Tryd.isAgg210
  z233 := Tryd.sizeOf210
  v233 := Tryd.zeroValue210
  g17 := by kernel_rfl
  g18 := by kernel_rfl
  g19 := by kernel_rfl
  i0 := by kernel_rfl
  i2 := by kernel_rfl
  i3 := by kernel_rfl
  i4 := by kernel_rfl
  i5 := by kernel_rfl
  i9 := by kernel_rfl
  i20 := by kernel_rfl
  i37 := by kernel_rfl
  i46 := by kernel_rfl
  i51 := by kernel_rfl
  i53 := by kernel_rfl
  i171 := by kernel_rfl
  i173 := by kernel_rfl
  i212 := by kernel_rfl
  i232 := by kernel_rfl
  i233 := by kernel_rfl
  m17 := by kernel_rfl
  m18 := by kernel_rfl
  m19 := by kernel_rfl }
open Go.RowKit Go.Sort Go.Lib in
/-- strconv.AppendInt: "AppendInt appends the string form of the integer i, as generated by FormatInt, to dst and returns the extended buffer.": AT BASE 10: WHAT COMES BACK OWNS dst's CELLS AND, BEHIND THEM, i's DECIMAL NUMERAL ('Lib.itoa i': at most 20 bytes), for every int64. Below the call's own blocks nothing has turned. (LAID: no walk: one application.) -/
theorem Tryd.strconv_AppendInt_10 (B n : Nat) (i : Int) (h0 : -9223372036854775808 ≤ i) (h1 : i ≤ 9223372036854775807) (sv : Value) (xs : List Value) (w : World) (hown : w.ownsRow B 5 1 sv n xs) (hBw : B ≤ w.heap.size) (hlim : n + 21 ≤ 140737488355328) (htab : Lib.TabBelow Tryd.prog B w "internal/strconv.uint64pow10" .u64 Lib.pow10Tab) :
    Calls Tryd.prog 37 #[sv, .int .i64 i, .int .i64 10] w fun e w' => ∃ v', e = .returned v' ∧ w'.ownsRow B 5 1 v' (n + (Lib.itoa i).length) (xs ++ Lib.byteCells (Lib.itoa i)) ∧ Below B w w' ∧ Lib.OthersKept 5 none w w' := Any.strconv_AppendInt_10 Tryd.laysM176 B n i h0 h1 sv xs w hown hBw hlim htab
def Tryd.lays203_ren : Go.Shelf.Ren := ⟨fun | 203 => 68 | 262 => 84 | 313 => 95 | 274 => 99 | 275 => 100 | n => n, fun | 21 => 21 | 4 => 4 | 3 => 3 | 162 => 200 | 203 => 198 | 160 => 206 | 46 => 192 | 0 => 0 | 208 => 214 | 51 => 189 | 206 => 212 | n => n, fun | 13 => 4 | n => n⟩
theorem Tryd.lays203 : Go.Proofs.Lays.n203 Tryd.prog Tryd.lays203_ren := {
  mixed := by kernel_rfl
  f203 := Tryd.func68.trans (congrArg some (by kernel_rfl))
  f262 := Tryd.func84.trans (congrArg some (by kernel_rfl))
  f274 := Tryd.func99.trans (congrArg some (by kernel_rfl))
  f275 := Tryd.func100.trans (congrArg some (by kernel_rfl))
  f313 := Tryd.func95.trans (congrArg some (by kernel_rfl))
  t0 := Tryd.underlying0
  a0 := Tryd.isAgg0
  z0 := Tryd.sizeOf0
  v0 := Tryd.zeroValue0
  t3 := Tryd.underlying3
  a3 := Tryd.isAgg3
  z3 := Tryd.sizeOf3
  v3 := Tryd.zeroValue3
  t4 := Tryd.underlying4
  a4 := Tryd.isAgg4
  z4 := Tryd.sizeOf4
  v4 := Tryd.zeroValue4
  t21 := Tryd.underlying21
  a21 := Tryd.isAgg21
  z21 := Tryd.sizeOf21
  v21 := Tryd.zeroValue21
  t46 := Tryd.underlying192
  a46 := Tryd.isAgg192
  z46 := Tryd.sizeOf192
  v46 := Tryd.zeroValue192
  t51 := Tryd.underlying189
  a51 := Tryd.isAgg189
  z51 := Tryd.sizeOf189
  v51 := Tryd.zeroValue189
  t160 := Tryd.underlying206
  a160 := Tryd.isAgg206
  z160 := Tryd.sizeOf206
  v160 := Tryd.zeroValue206
  t162 := Tryd.underlying200
  a162 := Tryd.isAgg200
  z162 := Tryd.sizeOf200
  v162 := Tryd.zeroValue200
  t203 := Tryd.underlying198
  a203 := Tryd.isAgg198
  z203 := Tryd.sizeOf198
  v203 := Tryd.zeroValue198
  t206 := Tryd.underlying212
  a206 := Tryd.isAgg212
  z206 := Tryd.sizeOf212
  v206 := Tryd.zeroValue212
  t208 := Tryd.underlying214
  a208 := Tryd.isAgg214
  z208 := Tryd.sizeOf214
  v208 := Tryd.zeroValue214
  g13 := by kernel_rfl }
open Go.RowKit Go.Lib in
theorem Tryd.unicode_ToUpper (r : Int) (w : World) (h : r ≤ 127) :
    Calls Tryd.prog 68 #[.int .i32 r] w fun e w' => e = .returned (.int .i32 (Lib.toUpperR r)) ∧ w' = w := Any.unicode_ToUpper Tryd.lays203 r w h
def Tryd.lays197_ren : Go.Shelf.Ren := ⟨fun | 197 => 80 | 260 => 93 | n => n, fun | 9 => 9 | 21 => 21 | 3 => 3 | 4 => 4 | 5 => 5 | 105 => 180 | 119 => 202 | 0 => 0 | 46 => 192 | 139 => 205 | 138 => 204 | n => n, fun | 3 => 6 | 4 => 7 | n => n⟩
theorem Tryd.lays197 : Go.Proofs.Lays.n197 Tryd.prog Tryd.lays197_ren := {
  mixed := by kernel_rfl
  f197 := Tryd.func80.trans (congrArg some (by kernel_rfl))
  f260 := Tryd.func93.trans (congrArg some (by kernel_rfl))
  t0 := Tryd.underlying0
  a0 := Tryd.isAgg0
  z0 := Tryd.sizeOf0
  v0 := Tryd.zeroValue0
  t3 := Tryd.underlying3
  a3 := Tryd.isAgg3
  z3 := Tryd.sizeOf3
  v3 := Tryd.zeroValue3
  t4 := Tryd.underlying4
  a4 := Tryd.isAgg4
  z4 := Tryd.sizeOf4
  v4 := Tryd.zeroValue4
  t5 := Tryd.underlying5
  a5 := Tryd.isAgg5
  z5 := Tryd.sizeOf5
  v5 := Tryd.zeroValue5
  t9 := Tryd.underlying9
  a9 := Tryd.isAgg9
  z9 := Tryd.sizeOf9
  v9 := Tryd.zeroValue9
  t21 := Tryd.underlying21
  a21 := Tryd.isAgg21
  z21 := Tryd.sizeOf21
  v21 := Tryd.zeroValue21
  t46 := Tryd.underlying192
  a46 := Tryd.isAgg192
  z46 := Tryd.sizeOf192
  v46 := Tryd.zeroValue192
  t105 := Tryd.underlying180
  a105 := Tryd.isAgg180
  z105 := Tryd.sizeOf180
  v105 := Tryd.zeroValue180
  t119 := Tryd.underlying202
  a119 := Tryd.isAgg202
  z119 := Tryd.sizeOf202
  t138 := Tryd.underlying204
  a138 := Tryd.isAgg204
  z138 := Tryd.sizeOf204
  v138 := Tryd.zeroValue204
  t139 := Tryd.underlying205
  a139 := Tryd.isAgg205
  z139 := Tryd.sizeOf205
  v139 := Tryd.zeroValue205
  g3 := by kernel_rfl
  g4 := by kernel_rfl }
open Go.RowKit Go.Lib in
/-- unicode/utf8.DecodeRuneInString: "DecodeRuneInString is like DecodeRune but its input is a string.": ("DecodeRune unpacks the first UTF-8 encoding in p and returns the rune and its width in bytes."): WHERE s BEGINS WITH AN ASCII BYTE x: (x, 1). (LAID: no walk: one application.) -/
theorem Tryd.utf8_DecodeRuneInString_ascii (s : ByteArray) (x : UInt8) (w : World) (h0 : s.data.toList[0]? = some x) (hx : x.toNat < 128) :
    Calls Tryd.prog 80 #[.string s] w fun e w' => e = .returned (.tuple #[.int .i32 x.toNat, .int .i64 1]) ∧ w' = w := Any.utf8_DecodeRuneInString_ascii Tryd.lays197 s x w h0 hx
def Tryd.lays260_ren : Go.Shelf.Ren := ⟨fun | 260 => 93 | n => n, fun | 9 => 9 | 21 => 21 | 3 => 3 | 4 => 4 | 5 => 5 | 119 => 202 | 0 => 0 | 46 => 192 | 139 => 205 | 138 => 204 | n => n, fun | 3 => 6 | 4 => 7 | n => n⟩
theorem Tryd.lays260 : Go.Proofs.Lays.n260 Tryd.prog Tryd.lays260_ren := {
  mixed := by kernel_rfl
  f260 := Tryd.func93.trans (congrArg some (by kernel_rfl))
  t0 := Tryd.underlying0
  a0 := Tryd.isAgg0
  z0 := Tryd.sizeOf0
  v0 := Tryd.zeroValue0
  t3 := Tryd.underlying3
  a3 := Tryd.isAgg3
  z3 := Tryd.sizeOf3
  v3 := Tryd.zeroValue3
  t4 := Tryd.underlying4
  a4 := Tryd.isAgg4
  z4 := Tryd.sizeOf4
  v4 := Tryd.zeroValue4
  t5 := Tryd.underlying5
  a5 := Tryd.isAgg5
  z5 := Tryd.sizeOf5
  v5 := Tryd.zeroValue5
  t9 := Tryd.underlying9
  a9 := Tryd.isAgg9
  z9 := Tryd.sizeOf9
  v9 := Tryd.zeroValue9
  t21 := Tryd.underlying21
  a21 := Tryd.isAgg21
  z21 := Tryd.sizeOf21
  v21 := Tryd.zeroValue21
  t46 := Tryd.underlying192
  a46 := Tryd.isAgg192
  z46 := Tryd.sizeOf192
  v46 := Tryd.zeroValue192
  t119 := Tryd.underlying202
  a119 := Tryd.isAgg202
  z119 := Tryd.sizeOf202
  t138 := Tryd.underlying204
  a138 := Tryd.isAgg204
  z138 := Tryd.sizeOf204
  v138 := Tryd.zeroValue204
  t139 := Tryd.underlying205
  a139 := Tryd.isAgg205
  z139 := Tryd.sizeOf205
  v139 := Tryd.zeroValue205
  g3 := by kernel_rfl
  g4 := by kernel_rfl }
open Go.RowKit Go.Lib in
theorem Tryd.utf8_decodeRuneInStringSlow (s : ByteArray) (w : World) (hT : Lib.Utf8Tabs 6 7 w) :
    Calls Tryd.prog 93 #[.string s] w fun e w' => e = .returned (.tuple #[.int .i32 (Lib.decodeGo s).1, .int .i64 (Lib.decodeGo s).2]) ∧ Below w.heap.size w w' := Any.utf8_decodeRuneInStringSlow Tryd.lays260 s w hT
open Go.RowKit Go.Lib in
/-- **unicode/utf8.DecodeRuneInString AT EVERY STRING.** (LAID: no walk: one application.) -/
theorem Tryd.utf8_DecodeRuneInString (s : ByteArray) (w : World) (hT : Lib.Utf8Tabs 6 7 w) :
    Calls Tryd.prog 80 #[.string s] w fun e w' => e = .returned (.tuple #[.int .i32 (Lib.decodeGo s).1, .int .i64 (Lib.decodeGo s).2]) ∧ Below w.heap.size w w' := Any.utf8_DecodeRuneInString Tryd.lays197 s w hT
def Tryd.lays274_ren : Go.Shelf.Ren := ⟨fun | 274 => 99 | n => n, fun | 21 => 21 | 162 => 200 | 160 => 206 | 3 => 3 | 4 => 4 | 46 => 192 | 0 => 0 | 208 => 214 | 51 => 189 | 206 => 212 | n => n, fun | n => n⟩
theorem Tryd.lays274 : Go.Proofs.Lays.n274 Tryd.prog Tryd.lays274_ren := {
  mixed := by kernel_rfl
  f274 := Tryd.func99.trans (congrArg some (by kernel_rfl))
  t0 := Tryd.underlying0
  a0 := Tryd.isAgg0
  z0 := Tryd.sizeOf0
  v0 := Tryd.zeroValue0
  t3 := Tryd.underlying3
  a3 := Tryd.isAgg3
  z3 := Tryd.sizeOf3
  v3 := Tryd.zeroValue3
  t4 := Tryd.underlying4
  a4 := Tryd.isAgg4
  z4 := Tryd.sizeOf4
  v4 := Tryd.zeroValue4
  t21 := Tryd.underlying21
  a21 := Tryd.isAgg21
  z21 := Tryd.sizeOf21
  v21 := Tryd.zeroValue21
  t46 := Tryd.underlying192
  a46 := Tryd.isAgg192
  z46 := Tryd.sizeOf192
  v46 := Tryd.zeroValue192
  t51 := Tryd.underlying189
  a51 := Tryd.isAgg189
  z51 := Tryd.sizeOf189
  v51 := Tryd.zeroValue189
  t160 := Tryd.underlying206
  a160 := Tryd.isAgg206
  z160 := Tryd.sizeOf206
  v160 := Tryd.zeroValue206
  t162 := Tryd.underlying200
  a162 := Tryd.isAgg200
  z162 := Tryd.sizeOf200
  v162 := Tryd.zeroValue200
  t208 := Tryd.underlying214
  a208 := Tryd.isAgg214
  z208 := Tryd.sizeOf214
  v208 := Tryd.zeroValue214 }
open Go.RowKit Go.Lib in
theorem Tryd.unicode_lookupCaseRange (T : Array CaseRow) (R oR cap : Nat) (r : Int) (w : World) (hT : CaseTab R oR T w) (hok : CaseOk T) (hn : T.size ≤ 1000000000) :
    Calls Tryd.prog 99 #[.int .i32 r, .slice (some ⟨R, oR, none⟩) T.size cap] w fun e w' =>
      e = .returned (match lookupIdx T r (T.size + 1) 0 T.size with | some i => .pointer (some ⟨R, oR + i * 5, none⟩) | none => .pointer none) ∧ w' = w := Any.unicode_lookupCaseRange Tryd.lays274 T R oR cap r w hT hok hn
def Tryd.lays275_ren : Go.Shelf.Ren := ⟨fun | 275 => 100 | n => n, fun | 3 => 3 | 21 => 21 | 160 => 206 | 0 => 0 | 208 => 214 | 206 => 212 | 4 => 4 | 51 => 189 | n => n, fun | n => n⟩
theorem Tryd.lays275 : Go.Proofs.Lays.n275 Tryd.prog Tryd.lays275_ren := {
  mixed := by kernel_rfl
  f275 := Tryd.func100.trans (congrArg some (by kernel_rfl))
  t0 := Tryd.underlying0
  a0 := Tryd.isAgg0
  z0 := Tryd.sizeOf0
  v0 := Tryd.zeroValue0
  t3 := Tryd.underlying3
  a3 := Tryd.isAgg3
  z3 := Tryd.sizeOf3
  v3 := Tryd.zeroValue3
  t4 := Tryd.underlying4
  a4 := Tryd.isAgg4
  z4 := Tryd.sizeOf4
  v4 := Tryd.zeroValue4
  t21 := Tryd.underlying21
  a21 := Tryd.isAgg21
  z21 := Tryd.sizeOf21
  v21 := Tryd.zeroValue21
  t51 := Tryd.underlying189
  a51 := Tryd.isAgg189
  z51 := Tryd.sizeOf189
  v51 := Tryd.zeroValue189
  t160 := Tryd.underlying206
  a160 := Tryd.isAgg206
  z160 := Tryd.sizeOf206
  v160 := Tryd.zeroValue206
  t206 := Tryd.underlying212
  a206 := Tryd.isAgg212
  z206 := Tryd.sizeOf212
  v206 := Tryd.zeroValue212
  t208 := Tryd.underlying214
  a208 := Tryd.isAgg214
  z208 := Tryd.sizeOf214
  v208 := Tryd.zeroValue214 }
open Go.RowKit Go.Lib in
theorem Tryd.unicode_convertCase (c : Nat) (hc : c < 3) (r : Int) (A o : Nat) (x : CaseRow) (w : World) (hlo : (x.1 : Int) ≤ r) (hhi : r ≤ (x.2.1 : Int)) (hH : x.2.1 < 2147483647) (c0 : w.cell? ⟨A, o, none⟩ = some (.int .u32 x.1)) (cD : w.cell? ⟨A, o + 2 + c, none⟩ = some (.int .i32 (x.delta c))) :
    Calls Tryd.prog 100 #[.int .i64 c, .int .i32 r, .pointer (some ⟨A, o, none⟩)] w fun e w' => e = .returned (.int .i32 (wrap32 (convertR c r x))) ∧ ∃ q, w' = w.drewN q := Any.unicode_convertCase Tryd.lays275 c hc r A o x w hlo hhi hH c0 cD
def Tryd.lays313_ren : Go.Shelf.Ren := ⟨fun | 313 => 95 | 274 => 99 | 275 => 100 | n => n, fun | 3 => 3 | 21 => 21 | 162 => 200 | 4 => 4 | 160 => 206 | 46 => 192 | 0 => 0 | 208 => 214 | 51 => 189 | 206 => 212 | n => n, fun | n => n⟩
theorem Tryd.lays313 : Go.Proofs.Lays.n313 Tryd.prog Tryd.lays313_ren := {
  mixed := by kernel_rfl
  f274 := Tryd.func99.trans (congrArg some (by kernel_rfl))
  f275 := Tryd.func100.trans (congrArg some (by kernel_rfl))
  f313 := Tryd.func95.trans (congrArg some (by kernel_rfl))
  t0 := Tryd.underlying0
  a0 := Tryd.isAgg0
  z0 := Tryd.sizeOf0
  v0 := Tryd.zeroValue0
  t3 := Tryd.underlying3
  a3 := Tryd.isAgg3
  z3 := Tryd.sizeOf3
  v3 := Tryd.zeroValue3
  t4 := Tryd.underlying4
  a4 := Tryd.isAgg4
  z4 := Tryd.sizeOf4
  v4 := Tryd.zeroValue4
  t21 := Tryd.underlying21
  a21 := Tryd.isAgg21
  z21 := Tryd.sizeOf21
  v21 := Tryd.zeroValue21
  t46 := Tryd.underlying192
  a46 := Tryd.isAgg192
  z46 := Tryd.sizeOf192
  v46 := Tryd.zeroValue192
  t51 := Tryd.underlying189
  a51 := Tryd.isAgg189
  z51 := Tryd.sizeOf189
  v51 := Tryd.zeroValue189
  t160 := Tryd.underlying206
  a160 := Tryd.isAgg206
  z160 := Tryd.sizeOf206
  v160 := Tryd.zeroValue206
  t162 := Tryd.underlying200
  a162 := Tryd.isAgg200
  z162 := Tryd.sizeOf200
  v162 := Tryd.zeroValue200
  t206 := Tryd.underlying212
  a206 := Tryd.isAgg212
  z206 := Tryd.sizeOf212
  v206 := Tryd.zeroValue212
  t208 := Tryd.underlying214
  a208 := Tryd.isAgg214
  z208 := Tryd.sizeOf214
  v208 := Tryd.zeroValue214 }
open Go.RowKit Go.Lib in
theorem Tryd.unicode_to (c : Nat) (hc : c < 3) (r : Int) (T : Array CaseRow) (R oR cap : Nat) (w : World) (hT : CaseTab R oR T w) (hok : CaseOk2 T) (hn : T.size ≤ 1000000000) :
    Calls Tryd.prog 95 #[.int .i64 c, .int .i32 r, .slice (some ⟨R, oR, none⟩) T.size cap] w fun e w' => e = .returned (.tuple #[.int .i32 (toW T c r), .bool (lookupIdx T r (T.size + 1) 0 T.size).isSome]) ∧ ∃ q, w' = w.drewN q := Any.unicode_to Tryd.lays313 c hc r T R oR cap w hT hok hn
def Tryd.lays262_ren : Go.Shelf.Ren := ⟨fun | 262 => 84 | 313 => 95 | 274 => 99 | 275 => 100 | n => n, fun | 3 => 3 | 21 => 21 | 162 => 200 | 203 => 198 | 4 => 4 | 160 => 206 | 46 => 192 | 0 => 0 | 208 => 214 | 51 => 189 | 206 => 212 | n => n, fun | 13 => 4 | n => n⟩
theorem Tryd.lays262 : Go.Proofs.Lays.n262 Tryd.prog Tryd.lays262_ren := {
  mixed := by kernel_rfl
  f262 := Tryd.func84.trans (congrArg some (by kernel_rfl))
  f274 := Tryd.func99.trans (congrArg some (by kernel_rfl))
  f275 := Tryd.func100.trans (congrArg some (by kernel_rfl))
  f313 := Tryd.func95.trans (congrArg some (by kernel_rfl))
  t0 := Tryd.underlying0
  a0 := Tryd.isAgg0
  z0 := Tryd.sizeOf0
  v0 := Tryd.zeroValue0
  t3 := Tryd.underlying3
  a3 := Tryd.isAgg3
  z3 := Tryd.sizeOf3
  v3 := Tryd.zeroValue3
  t4 := Tryd.underlying4
  a4 := Tryd.isAgg4
  z4 := Tryd.sizeOf4
  v4 := Tryd.zeroValue4
  t21 := Tryd.underlying21
  a21 := Tryd.isAgg21
  z21 := Tryd.sizeOf21
  v21 := Tryd.zeroValue21
  t46 := Tryd.underlying192
  a46 := Tryd.isAgg192
  z46 := Tryd.sizeOf192
  v46 := Tryd.zeroValue192
  t51 := Tryd.underlying189
  a51 := Tryd.isAgg189
  z51 := Tryd.sizeOf189
  v51 := Tryd.zeroValue189
  t160 := Tryd.underlying206
  a160 := Tryd.isAgg206
  z160 := Tryd.sizeOf206
  v160 := Tryd.zeroValue206
  t162 := Tryd.underlying200
  a162 := Tryd.isAgg200
  z162 := Tryd.sizeOf200
  v162 := Tryd.zeroValue200
  t203 := Tryd.underlying198
  a203 := Tryd.isAgg198
  z203 := Tryd.sizeOf198
  v203 := Tryd.zeroValue198
  t206 := Tryd.underlying212
  a206 := Tryd.isAgg212
  z206 := Tryd.sizeOf212
  v206 := Tryd.zeroValue212
  t208 := Tryd.underlying214
  a208 := Tryd.isAgg214
  z208 := Tryd.sizeOf214
  v208 := Tryd.zeroValue214
  g13 := by kernel_rfl }
open Go.RowKit Go.Lib in
theorem Tryd.unicode_To (c : Nat) (hc : c < 3) (r : Int) (T : Array CaseRow) (w : World) (hV : CaseVar 4 T w) (hok : CaseOk2 T) (hn : T.size ≤ 1000000000) :
    Calls Tryd.prog 84 #[.int .i64 c, .int .i32 r] w fun e w' => e = .returned (.int .i32 (toW T c r)) ∧ ∃ q, w' = w.drewN q := Any.unicode_To Tryd.lays262 c hc r T w hV hok hn
open Go.RowKit Go.Lib in
theorem Tryd.unicode_ToUpper_any (r : Int) (T : Array CaseRow) (w : World) (hV : CaseVar 4 T w) (hok : CaseOk2 T) (hn : T.size ≤ 1000000000) :
    Calls Tryd.prog 68 #[.int .i32 r] w fun e w' => e = .returned (.int .i32 (Lib.toUpperW T r)) ∧ ∃ q, w' = w.drewN q := Any.unicode_ToUpper_any Tryd.lays203 r T w hV hok hn
open Go.RowKit Go.Lib in
theorem Tryd.unicode_ToUpper_laid (r : Int) (w : World) (hV : CaseVar 4 caseA w) :
    Calls Tryd.prog 68 #[.int .i32 r] w fun e w' => e = .returned (.int .i32 (toUpperU r)) ∧ ∃ q, w' = w.drewN q := Any.unicode_ToUpper_laid Tryd.lays203 r w hV
def Tryd.lays270_ren : Go.Shelf.Ren := ⟨fun | 270 => 83 | n => n, fun | 70 => 155 | 3 => 3 | 0 => 0 | 72 => 157 | 37 => 50 | 5 => 5 | n => n, fun | n => n⟩
theorem Tryd.lays270 : Go.Proofs.Lays.n270 Tryd.prog Tryd.lays270_ren := {
  mixed := by kernel_rfl
  f270 := Tryd.func83.trans (congrArg some (by kernel_rfl))
  t0 := Tryd.underlying0
  a0 := Tryd.isAgg0
  z0 := Tryd.sizeOf0
  v0 := Tryd.zeroValue0
  t3 := Tryd.underlying3
  a3 := Tryd.isAgg3
  z3 := Tryd.sizeOf3
  v3 := Tryd.zeroValue3
  t37 := Tryd.underlying50
  a37 := Tryd.isAgg50
  z37 := Tryd.sizeOf50
  v37 := Tryd.zeroValue50
  t70 := Tryd.underlying155
  a70 := Tryd.isAgg155
  z70 := Tryd.sizeOf155
  v70 := Tryd.zeroValue155
  t72 := Tryd.underlying157
  a72 := Tryd.isAgg157
  z72 := Tryd.sizeOf157
  v72 := Tryd.zeroValue157 }
open Go.RowKit Go.Lib in
/-- (*strings.Builder).Cap: "Cap returns the capacity of the builder's underlying byte slice." (LAID: no walk: one application.) -/
theorem Tryd.Builder_Cap_cell (b : Nat) (p : Option Addr) (n cap : Nat) (w : World) (c1 : w.cell? ⟨b, 1, none⟩ = some (.slice p n cap)) :
    Calls Tryd.prog 83 #[.pointer (some ⟨b, 0, none⟩)] w fun e w' => e = .returned (.int .i64 cap) ∧ w' = w := Any.Builder_Cap_cell Tryd.lays270 b p n cap w c1
def Tryd.lays230_ren : Go.Shelf.Ren := ⟨fun | 230 => 67 | 197 => 80 | 118 => 81 | 165 => 63 | 166 => 64 | 168 => 82 | 270 => 83 | 167 => 65 | 169 => 66 | 260 => 93 | 240 => 78 | 241 => 79 | 242 => 94 | 276 => 91 | 277 => 92 | 278 => 98 | n => n, fun | 107 => 162 | 9 => 9 | 72 => 157 | 0 => 0 | 4 => 4 | 3 => 3 | 21 => 21 | 105 => 180 | 76 => 102 | 5 => 5 | 75 => 56 | 70 => 155 | 20 => 20 | 37 => 50 | 127 => 179 | 119 => 202 | 46 => 192 | 139 => 205 | 138 => 204 | 164 => 194 | 51 => 189 | 80 => 68 | n => n, fun | 3 => 6 | 4 => 7 | n => n⟩
theorem Tryd.lays230 : Go.Proofs.Lays.n230 Tryd.prog Tryd.lays230_ren := {
  mixed := by kernel_rfl
  f118 := Tryd.func81.trans (congrArg some (by kernel_rfl))
  f165 := Tryd.func63.trans (congrArg some (by kernel_rfl))
  f166 := Tryd.func64.trans (congrArg some (by kernel_rfl))
  f167 := Tryd.func65.trans (congrArg some (by kernel_rfl))
  f168 := Tryd.func82.trans (congrArg some (by kernel_rfl))
  f169 := Tryd.func66.trans (congrArg some (by kernel_rfl))
  f197 := Tryd.func80.trans (congrArg some (by kernel_rfl))
  f230 := Tryd.func67.trans (congrArg some (by kernel_rfl))
  f240 := Tryd.func78.trans (congrArg some (by kernel_rfl))
  f241 := Tryd.func79.trans (congrArg some (by kernel_rfl))
  f242 := Tryd.func94.trans (congrArg some (by kernel_rfl))
  f260 := Tryd.func93.trans (congrArg some (by kernel_rfl))
  f270 := Tryd.func83.trans (congrArg some (by kernel_rfl))
  f276 := Tryd.func91.trans (congrArg some (by kernel_rfl))
  f277 := Tryd.func92.trans (congrArg some (by kernel_rfl))
  f278 := Tryd.func98.trans (congrArg some (by kernel_rfl))
  t0 := Tryd.underlying0
  a0 := Tryd.isAgg0
  z0 := Tryd.sizeOf0
  v0 := Tryd.zeroValue0
  t3 := Tryd.underlying3
  a3 := Tryd.isAgg3
  z3 := Tryd.sizeOf3
  v3 := Tryd.zeroValue3
  t4 := Tryd.underlying4
  a4 := Tryd.isAgg4
  z4 := Tryd.sizeOf4
  v4 := Tryd.zeroValue4
  t5 := Tryd.underlying5
  a5 := Tryd.isAgg5
  z5 := Tryd.sizeOf5
  v5 := Tryd.zeroValue5
  t9 := Tryd.underlying9
  a9 := Tryd.isAgg9
  z9 := Tryd.sizeOf9
  v9 := Tryd.zeroValue9
  t20 := Tryd.underlying20
  a20 := Tryd.isAgg20
  z20 := Tryd.sizeOf20
  v20 := Tryd.zeroValue20
  t21 := Tryd.underlying21
  a21 := Tryd.isAgg21
  z21 := Tryd.sizeOf21
  v21 := Tryd.zeroValue21
  t37 := Tryd.underlying50
  a37 := Tryd.isAgg50
  z37 := Tryd.sizeOf50
  v37 := Tryd.zeroValue50
  t46 := Tryd.underlying192
  a46 := Tryd.isAgg192
  z46 := Tryd.sizeOf192
  v46 := Tryd.zeroValue192
  t51 := Tryd.underlying189
  a51 := Tryd.isAgg189
  z51 := Tryd.sizeOf189
  v51 := Tryd.zeroValue189
  t70 := Tryd.underlying155
  a70 := Tryd.isAgg155
  z70 := Tryd.sizeOf155
  v70 := Tryd.zeroValue155
  t72 := Tryd.underlying157
  a72 := Tryd.isAgg157
  z72 := Tryd.sizeOf157
  v72 := Tryd.zeroValue157
  t75 := Tryd.underlying56
  a75 := Tryd.isAgg56
  z75 := Tryd.sizeOf56
  v75 := Tryd.zeroValue56
  t76 := Tryd.underlying102
  a76 := Tryd.isAgg102
  z76 := Tryd.sizeOf102
  v76 := Tryd.zeroValue102
  t105 := Tryd.underlying180
  a105 := Tryd.isAgg180
  z105 := Tryd.sizeOf180
  v105 := Tryd.zeroValue180
  t107 := Tryd.underlying162
  a107 := Tryd.isAgg162
  z107 := Tryd.sizeOf162
  v107 := Tryd.zeroValue162
  t119 := Tryd.underlying202
  a119 := Tryd.isAgg202
  z119 := Tryd.sizeOf202
  t127 := Tryd.underlying179
  a127 := Tryd.isAgg179
  z127 := Tryd.sizeOf179
  v127 := Tryd.zeroValue179
  t138 := Tryd.underlying204
  a138 := Tryd.isAgg204
  z138 := Tryd.sizeOf204
  v138 := Tryd.zeroValue204
  t139 := Tryd.underlying205
  a139 := Tryd.isAgg205
  z139 := Tryd.sizeOf205
  v139 := Tryd.zeroValue205
  t164 := Tryd.underlying194
  a164 := Tryd.isAgg194
  z164 := Tryd.sizeOf194
  v164 := Tryd.zeroValue194
  g3 := by kernel_rfl
  g4 := by kernel_rfl }
theorem Tryd.Builder_Extra_230 : Builder.Extra Tryd.prog Tryd.lays230_ren := {
  sizeBuilder := by kernel_rfl
  liesBuilder := by kernel_rfl
  t5 := Tryd.underlying5
  a5 := Tryd.isAgg5
  z5 := Tryd.sizeOf5
  v5 := Tryd.zeroValue5
  infoByte := by kernel_rfl
  cellsByte := by kernel_rfl
  sizeByte := by kernel_rfl
  neB5 := by decide }
open Go.RowKit Go.Lib in
theorem Tryd.strings_Map_runes (g : Nat) (lb : Array Value) (eg : ∀ args w, (callFunc g args).run Tryd.prog w = .ok (.enter g args) w) (f : Int → Int) (s : ByteArray) (w : World) (hs : s.size < 35184372088832) (hf : MapAtRunes Tryd.prog g lb f w) (hnn : ∀ x : Nat, x ≤ 1114111 → 0 ≤ f x ∧ f x ≤ 2147483647) (hT : Lib.Utf8Tabs 6 7 w) :
    Calls Tryd.prog 67 #[.func (.func g) #[] lb, .string s] w fun e w' => e = .returned (.string ⟨(Lib.mapD f s.data.toList).toArray⟩) ∧ Below w.heap.size w w' := Any.strings_Map_runes Tryd.lays230 Tryd.Builder_Extra_230 g lb eg f s w hs hf hnn hT
open Go.RowKit Go.Lib in
theorem Tryd.strings_ToUpper_beyond (s : ByteArray) (w : World) (hs : s.size < 35184372088832) (hhigh : ∃ (j : Nat) (b : UInt8), s.data.toList[j]? = some b ∧ 128 ≤ b.toNat) (hV : CaseVar 4 caseA w) (hT : Lib.Utf8Tabs 6 7 w) :
    Calls Tryd.prog 57 #[.string s] w fun e w' => e = .returned (.string ⟨(Lib.toUpperD s.data.toList).toArray⟩) ∧ Below w.heap.size w w' := Any.strings_ToUpper_beyond Tryd.lays158 Tryd.Builder_Extra_158 s w hs hhigh hV hT
open Go.RowKit Go.Lib in
/-- **strings.ToUpper AT EVERY STRING, VALID UTF-8 OR NOT.** (LAID: no walk: one application.) -/
theorem Tryd.strings_ToUpper_any (s : ByteArray) (w : World) (hs : s.size < 35184372088832) (hV : CaseVar 4 caseA w) (hT : Lib.Utf8Tabs 6 7 w) :
    Calls Tryd.prog 57 #[.string s] w fun e w' => e = .returned (.string ⟨(Lib.toUpperD s.data.toList).toArray⟩) ∧ Below w.heap.size w w' := Any.strings_ToUpper_any Tryd.lays158 Tryd.Builder_Extra_158 s w hs hV hT
end Go.Proofs
