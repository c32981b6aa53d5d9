/-
  DERIVED: THE SHELF's CONTRACTS AT THIS DUMP, IN PLAIN WORDS (tools/lay-plain.mjs out of 'TryzShelf.lean', which tools/lay-shelf.mjs wrote): THE SAME DECLARATIONS UNDER THE SAME NAMES: 'import', 'namespace', 'open', 'def', 'theorem' AND NOTHING ELSE: no command of the shelf's: FOR A HAND-IN. Each laying: the table of numbers ('.._ren') and one theorem, a field a fact of the dump's own or the kernel's comparison; each contract: ONE APPLICATION.
-/
import Derived.Shelf.Strings.Builder1
import Derived.Shelf.Strings.Builder2
import Derived.Shelf.Strings.OnBuilder
import Derived.Shelf.Small.Utf8
import Derived.Shelf.Small.Bits
import Derived.Shelf.Strings.BuilderF
import Derived.Shelf.Strings.BuilderK
import Derived.Shelf.Strings.BuilderRune
import Derived.Shelf.Strings.Builder2Cap
import Derived.Shelf.Strconv.Itoa0
import Derived.Shelf.Strconv.Itoa1
import Derived.Shelf.LaysM
import Derived.Shelf.Strconv.Itoa2
import Derived.Shelf.Strconv.Itoa3
import Derived.Shelf.Strconv.Lower
import Derived.Shelf.Sort.Plain
import Derived.Shelf.Strings.Prefix
import Derived.Shelf.Unicode.Latin
import Derived.Shelf.Unicode.Decode
import Derived.Shelf.Bits.Mul64
import Derived.Shelf.Unicode.DecodeSlow
import Derived.Shelf.Unicode.DecodeAny
import Derived.Shelf.Unicode.CaseLookup
import Derived.Shelf.Unicode.CaseConvert
import Derived.Shelf.Unicode.CaseTo
import Derived.Shelf.Unicode.CaseLaid
import Derived.Shelf.Strings.MapAny
import Derived.Shelf.Strings.CaseAny
import Derived.Shelf.Strings.BuilderCap
import Derived.Shelf.Strings.MapGrows
import Derived.Shelf.Slices.In.SortNone
import Derived.Test.YtbcnhcpgloncdaaGreatDoorProg
namespace Go.Proofs
open Go.Shelf
def Tryz.lays169_ren : Go.Shelf.Ren := ⟨fun | 169 => 181 | n => n, fun | 70 => 203 | 9 => 9 | 0 => 0 | 72 => 205 | 37 => 195 | 127 => 245 | 3 => 3 | 5 => 5 | n => n, fun | n => n⟩
theorem Tryz.lays169 : Go.Proofs.Lays.n169 Tryz.prog Tryz.lays169_ren := {
  mixed := by kernel_rfl
  f169 := Tryz.func181.trans (congrArg some (by kernel_rfl))
  t0 := Tryz.underlying0
  a0 := Tryz.isAgg0
  z0 := Tryz.sizeOf0
  v0 := Tryz.zeroValue0
  t3 := Tryz.underlying3
  a3 := Tryz.isAgg3
  z3 := Tryz.sizeOf3
  v3 := Tryz.zeroValue3
  t9 := Tryz.underlying9
  a9 := Tryz.isAgg9
  z9 := Tryz.sizeOf9
  v9 := Tryz.zeroValue9
  t37 := Tryz.underlying195
  a37 := Tryz.isAgg195
  z37 := Tryz.sizeOf195
  v37 := Tryz.zeroValue195
  t70 := Tryz.underlying203
  a70 := Tryz.isAgg203
  z70 := Tryz.sizeOf203
  v70 := Tryz.zeroValue203
  t72 := Tryz.underlying205
  a72 := Tryz.isAgg205
  z72 := Tryz.sizeOf205
  v72 := Tryz.zeroValue205
  t127 := Tryz.underlying245
  a127 := Tryz.isAgg245
  z127 := Tryz.sizeOf245
  v127 := Tryz.zeroValue245 }
theorem Tryz.Builder_Extra_169 : Builder.Extra Tryz.prog Tryz.lays169_ren := {
  sizeBuilder := by kernel_rfl
  liesBuilder := by kernel_rfl
  t5 := Tryz.underlying5
  a5 := Tryz.isAgg5
  z5 := Tryz.sizeOf5
  v5 := Tryz.zeroValue5
  infoByte := by kernel_rfl
  cellsByte := by kernel_rfl
  sizeByte := by kernel_rfl
  neB5 := by decide }
open Go.RowKit in
/-- (*strings.Builder).String: "String returns the accumulated string.": OF A BUILDER THAT HOLDS AT LEAST ONE BYTE. ✋ THE MODEL FREEZES THOSE BYTES IN THE BUFFER (unsafe.String): a later write INTO them ends the model's run without an answer; a later append BEHIND them goes on. The statement's order of evaluation is drawn: one draw. (LAID: no walk: one application.) -/
theorem Tryz.Builder_String (B b : Nat) (l : List UInt8) (w : World) (h : Lib.IsBuilder 205 5 B b (Lib.byteCells l) w) (h0 : l ≠ []) :
    Calls Tryz.prog 181 #[.pointer (some ⟨b, 0, none⟩)] w fun e w' => e = .returned (.string ⟨l.toArray⟩) ∧ Below B w w' := Any.Builder_String Tryz.lays169 Tryz.Builder_Extra_169 B b l w h h0
open Go.RowKit in
/-- (*strings.Builder).String OF A BUILDER THAT HOLDS NO BYTE: the empty string. (Its buffer is nil, or a row of which it has taken nothing yet; where that row has NO capacity the model lays one new block for unsafe.SliceData's 'some address'.) One draw. (LAID: no walk: one application.) -/
theorem Tryz.Builder_String_empty (B b : Nat) (w : World) (h : Lib.IsBuilder 205 5 B b [] w) (hBw : B ≤ w.heap.size) :
    Calls Tryz.prog 181 #[.pointer (some ⟨b, 0, none⟩)] w fun e w' => e = .returned (.string ⟨#[]⟩) ∧ Below B w w' := Any.Builder_String_empty Tryz.lays169 Tryz.Builder_Extra_169 B b w h hBw
open Go.RowKit in
/-- (*strings.Builder).String: "String returns the accumulated string.": WHATEVER THE BUILDER HOLDS. (LAID: no walk: one application.) -/
theorem Tryz.Builder_String_any (B b : Nat) (l : List UInt8) (w : World) (h : Lib.IsBuilder 205 5 B b (Lib.byteCells l) w) (hBw : B ≤ w.heap.size) :
    Calls Tryz.prog 181 #[.pointer (some ⟨b, 0, none⟩)] w fun e w' => e = .returned (.string ⟨l.toArray⟩) ∧ Below B w w' := Any.Builder_String_any Tryz.lays169 Tryz.Builder_Extra_169 B b l w h hBw
def Tryz.lays241_ren : Go.Shelf.Ren := ⟨fun | 241 => 213 | 277 => 248 | n => n, fun | 70 => 203 | 3 => 3 | 0 => 0 | 72 => 205 | 37 => 195 | 5 => 5 | n => n, fun | n => n⟩
theorem Tryz.lays241 : Go.Proofs.Lays.n241 Tryz.prog Tryz.lays241_ren := {
  mixed := by kernel_rfl
  f241 := Tryz.func213.trans (congrArg some (by kernel_rfl))
  f277 := Tryz.func248.trans (congrArg some (by kernel_rfl))
  t0 := Tryz.underlying0
  a0 := Tryz.isAgg0
  z0 := Tryz.sizeOf0
  v0 := Tryz.zeroValue0
  t3 := Tryz.underlying3
  a3 := Tryz.isAgg3
  z3 := Tryz.sizeOf3
  v3 := Tryz.zeroValue3
  t37 := Tryz.underlying195
  a37 := Tryz.isAgg195
  z37 := Tryz.sizeOf195
  v37 := Tryz.zeroValue195
  t70 := Tryz.underlying203
  a70 := Tryz.isAgg203
  z70 := Tryz.sizeOf203
  v70 := Tryz.zeroValue203
  t72 := Tryz.underlying205
  a72 := Tryz.isAgg205
  z72 := Tryz.sizeOf205
  v72 := Tryz.zeroValue205 }
theorem Tryz.Builder_Extra_241 : Builder.Extra Tryz.prog Tryz.lays241_ren := {
  sizeBuilder := by kernel_rfl
  liesBuilder := by kernel_rfl
  t5 := Tryz.underlying5
  a5 := Tryz.isAgg5
  z5 := Tryz.sizeOf5
  v5 := Tryz.zeroValue5
  infoByte := by kernel_rfl
  cellsByte := by kernel_rfl
  sizeByte := by kernel_rfl
  neB5 := by decide }
open Go.RowKit in
/-- (*strings.Builder).grow (no doc but "grow copies the buffer to a new, larger buffer so that there are at least n bytes of capacity beyond len(b.buf)."): AT A BUILDER WITHOUT A BUFFER: a new row of whatever bytes for its buffer, none of them its own yet. Three draws. (LAID: no walk: one application.) -/
theorem Tryz.Builder_grow_fresh (B b n : Nat) (w : World) (hB : B ≤ b) (hbk : w.heap[b]? = some (.cells #[.pointer (some ⟨b, 0, none⟩), .slice none 0 0] 205 (0, 0))) (hBw : B ≤ w.heap.size) (hn : n ≤ 281474976710656) :
    Calls Tryz.prog 213 #[.pointer (some ⟨b, 0, none⟩), .int .i64 n] w fun e w' => e = .returned (.tuple #[]) ∧ (Lib.BuilderAt 205 5 B b (.pointer (some ⟨b, 0, none⟩)) [] w' ∧ Below B w w') := Any.Builder_grow_fresh Tryz.lays241 Tryz.Builder_Extra_241 B b n w hB hbk hBw hn
def Tryz.lays165_ren : Go.Shelf.Ren := ⟨fun | 165 => 178 | 240 => 212 | 241 => 213 | 276 => 247 | 277 => 248 | n => n, fun | 70 => 203 | 3 => 3 | 0 => 0 | 4 => 4 | 9 => 9 | 20 => 20 | 72 => 205 | 37 => 195 | 164 => 275 | 5 => 5 | n => n, fun | n => n⟩
theorem Tryz.lays165 : Go.Proofs.Lays.n165 Tryz.prog Tryz.lays165_ren := {
  mixed := by kernel_rfl
  f165 := Tryz.func178.trans (congrArg some (by kernel_rfl))
  f240 := Tryz.func212.trans (congrArg some (by kernel_rfl))
  f241 := Tryz.func213.trans (congrArg some (by kernel_rfl))
  f276 := Tryz.func247.trans (congrArg some (by kernel_rfl))
  f277 := Tryz.func248.trans (congrArg some (by kernel_rfl))
  t0 := Tryz.underlying0
  a0 := Tryz.isAgg0
  z0 := Tryz.sizeOf0
  v0 := Tryz.zeroValue0
  t3 := Tryz.underlying3
  a3 := Tryz.isAgg3
  z3 := Tryz.sizeOf3
  v3 := Tryz.zeroValue3
  t4 := Tryz.underlying4
  a4 := Tryz.isAgg4
  z4 := Tryz.sizeOf4
  v4 := Tryz.zeroValue4
  t9 := Tryz.underlying9
  a9 := Tryz.isAgg9
  z9 := Tryz.sizeOf9
  v9 := Tryz.zeroValue9
  t20 := Tryz.underlying20
  a20 := Tryz.isAgg20
  z20 := Tryz.sizeOf20
  v20 := Tryz.zeroValue20
  t37 := Tryz.underlying195
  a37 := Tryz.isAgg195
  z37 := Tryz.sizeOf195
  v37 := Tryz.zeroValue195
  t70 := Tryz.underlying203
  a70 := Tryz.isAgg203
  z70 := Tryz.sizeOf203
  v70 := Tryz.zeroValue203
  t72 := Tryz.underlying205
  a72 := Tryz.isAgg205
  z72 := Tryz.sizeOf205
  v72 := Tryz.zeroValue205
  t164 := Tryz.underlying275
  a164 := Tryz.isAgg275
  z164 := Tryz.sizeOf275
  v164 := Tryz.zeroValue275 }
theorem Tryz.Builder_Extra_165 : Builder.Extra Tryz.prog Tryz.lays165_ren := {
  sizeBuilder := by kernel_rfl
  liesBuilder := by kernel_rfl
  t5 := Tryz.underlying5
  a5 := Tryz.isAgg5
  z5 := Tryz.sizeOf5
  v5 := Tryz.zeroValue5
  infoByte := by kernel_rfl
  cellsByte := by kernel_rfl
  sizeByte := by kernel_rfl
  neB5 := by decide }
open Go.RowKit in
/-- (*strings.Builder).Grow AT A BUILDER THAT HAS NOT BEEN WRITTEN ('var b strings.Builder; b.Grow(n)'): "Grow grows b's capacity, if necessary, to guarantee space for another n bytes.": it holds no byte behind it as before it. (LAID: no walk: one application.) -/
theorem Tryz.Builder_Grow_fresh (B b n : Nat) (w : World) (hB : B ≤ b) (hbk : w.heap[b]? = some (.cells #[.pointer none, .slice none 0 0] 205 (0, 0))) (hBw : B ≤ w.heap.size) (hn : n ≤ 281474976710656) :
    Calls Tryz.prog 178 #[.pointer (some ⟨b, 0, none⟩), .int .i64 n] w fun e w' => e = .returned (.tuple #[]) ∧ (Lib.BuilderAt 205 5 B b (.pointer (some ⟨b, 0, none⟩)) [] w' ∧ Below B w w') := Any.Builder_Grow_fresh Tryz.lays165 Tryz.Builder_Extra_165 B b n w hB hbk hBw hn
def Tryz.lays159_ren : Go.Shelf.Ren := ⟨fun | 159 => 172 | 165 => 178 | 166 => 179 | 167 => 180 | 169 => 181 | 230 => 182 | 204 => 183 | 240 => 212 | 241 => 213 | 197 => 214 | 118 => 215 | 168 => 216 | 270 => 217 | 262 => 218 | 276 => 247 | 277 => 248 | 260 => 249 | 242 => 250 | 313 => 251 | 278 => 259 | 274 => 260 | 275 => 261 | n => n, fun | 9 => 9 | 4 => 4 | 3 => 3 | 5 => 5 | 72 => 205 | 0 => 0 | 76 => 207 | 75 => 69 | 107 => 211 | 70 => 203 | 20 => 20 | 37 => 195 | 127 => 245 | 21 => 21 | 105 => 246 | 164 => 275 | 162 => 281 | 203 => 279 | 119 => 295 | 46 => 202 | 139 => 298 | 138 => 297 | 51 => 213 | 160 => 299 | 208 => 306 | 206 => 304 | 80 => 125 | n => n, fun | 13 => 2 | 3 => 6 | 4 => 7 | n => n⟩
theorem Tryz.lays159 : Go.Proofs.Lays.n159 Tryz.prog Tryz.lays159_ren := {
  mixed := by kernel_rfl
  f118 := Tryz.func215.trans (congrArg some (by kernel_rfl))
  f159 := Tryz.func172.trans (congrArg some (by kernel_rfl))
  f165 := Tryz.func178.trans (congrArg some (by kernel_rfl))
  f166 := Tryz.func179.trans (congrArg some (by kernel_rfl))
  f167 := Tryz.func180.trans (congrArg some (by kernel_rfl))
  f168 := Tryz.func216.trans (congrArg some (by kernel_rfl))
  f169 := Tryz.func181.trans (congrArg some (by kernel_rfl))
  f197 := Tryz.func214.trans (congrArg some (by kernel_rfl))
  f204 := Tryz.func183.trans (congrArg some (by kernel_rfl))
  f230 := Tryz.func182.trans (congrArg some (by kernel_rfl))
  f240 := Tryz.func212.trans (congrArg some (by kernel_rfl))
  f241 := Tryz.func213.trans (congrArg some (by kernel_rfl))
  f242 := Tryz.func250.trans (congrArg some (by kernel_rfl))
  f260 := Tryz.func249.trans (congrArg some (by kernel_rfl))
  f262 := Tryz.func218.trans (congrArg some (by kernel_rfl))
  f270 := Tryz.func217.trans (congrArg some (by kernel_rfl))
  f274 := Tryz.func260.trans (congrArg some (by kernel_rfl))
  f275 := Tryz.func261.trans (congrArg some (by kernel_rfl))
  f276 := Tryz.func247.trans (congrArg some (by kernel_rfl))
  f277 := Tryz.func248.trans (congrArg some (by kernel_rfl))
  f278 := Tryz.func259.trans (congrArg some (by kernel_rfl))
  f313 := Tryz.func251.trans (congrArg some (by kernel_rfl))
  t0 := Tryz.underlying0
  a0 := Tryz.isAgg0
  z0 := Tryz.sizeOf0
  v0 := Tryz.zeroValue0
  t3 := Tryz.underlying3
  a3 := Tryz.isAgg3
  z3 := Tryz.sizeOf3
  v3 := Tryz.zeroValue3
  t4 := Tryz.underlying4
  a4 := Tryz.isAgg4
  z4 := Tryz.sizeOf4
  v4 := Tryz.zeroValue4
  t5 := Tryz.underlying5
  a5 := Tryz.isAgg5
  z5 := Tryz.sizeOf5
  v5 := Tryz.zeroValue5
  t9 := Tryz.underlying9
  a9 := Tryz.isAgg9
  z9 := Tryz.sizeOf9
  v9 := Tryz.zeroValue9
  t20 := Tryz.underlying20
  a20 := Tryz.isAgg20
  z20 := Tryz.sizeOf20
  v20 := Tryz.zeroValue20
  t21 := Tryz.underlying21
  a21 := Tryz.isAgg21
  z21 := Tryz.sizeOf21
  v21 := Tryz.zeroValue21
  t37 := Tryz.underlying195
  a37 := Tryz.isAgg195
  z37 := Tryz.sizeOf195
  v37 := Tryz.zeroValue195
  t46 := Tryz.underlying202
  a46 := Tryz.isAgg202
  z46 := Tryz.sizeOf202
  v46 := Tryz.zeroValue202
  t51 := Tryz.underlying213
  a51 := Tryz.isAgg213
  z51 := Tryz.sizeOf213
  v51 := Tryz.zeroValue213
  t70 := Tryz.underlying203
  a70 := Tryz.isAgg203
  z70 := Tryz.sizeOf203
  v70 := Tryz.zeroValue203
  t72 := Tryz.underlying205
  a72 := Tryz.isAgg205
  z72 := Tryz.sizeOf205
  v72 := Tryz.zeroValue205
  t75 := Tryz.underlying69
  a75 := Tryz.isAgg69
  z75 := Tryz.sizeOf69
  v75 := Tryz.zeroValue69
  t76 := Tryz.underlying207
  a76 := Tryz.isAgg207
  z76 := Tryz.sizeOf207
  v76 := Tryz.zeroValue207
  t105 := Tryz.underlying246
  a105 := Tryz.isAgg246
  z105 := Tryz.sizeOf246
  v105 := Tryz.zeroValue246
  t107 := Tryz.underlying211
  a107 := Tryz.isAgg211
  z107 := Tryz.sizeOf211
  v107 := Tryz.zeroValue211
  t119 := Tryz.underlying295
  a119 := Tryz.isAgg295
  z119 := Tryz.sizeOf295
  t127 := Tryz.underlying245
  a127 := Tryz.isAgg245
  z127 := Tryz.sizeOf245
  v127 := Tryz.zeroValue245
  t138 := Tryz.underlying297
  a138 := Tryz.isAgg297
  z138 := Tryz.sizeOf297
  v138 := Tryz.zeroValue297
  t139 := Tryz.underlying298
  a139 := Tryz.isAgg298
  z139 := Tryz.sizeOf298
  v139 := Tryz.zeroValue298
  t160 := Tryz.underlying299
  a160 := Tryz.isAgg299
  z160 := Tryz.sizeOf299
  v160 := Tryz.zeroValue299
  t162 := Tryz.underlying281
  a162 := Tryz.isAgg281
  z162 := Tryz.sizeOf281
  v162 := Tryz.zeroValue281
  t164 := Tryz.underlying275
  a164 := Tryz.isAgg275
  z164 := Tryz.sizeOf275
  v164 := Tryz.zeroValue275
  t203 := Tryz.underlying279
  a203 := Tryz.isAgg279
  z203 := Tryz.sizeOf279
  v203 := Tryz.zeroValue279
  t206 := Tryz.underlying304
  a206 := Tryz.isAgg304
  z206 := Tryz.sizeOf304
  v206 := Tryz.zeroValue304
  t208 := Tryz.underlying306
  a208 := Tryz.isAgg306
  z208 := Tryz.sizeOf306
  v208 := Tryz.zeroValue306
  g3 := by kernel_rfl
  g4 := by kernel_rfl
  g13 := by kernel_rfl }
theorem Tryz.Builder_Extra_159 : Builder.Extra Tryz.prog Tryz.lays159_ren := {
  sizeBuilder := by kernel_rfl
  liesBuilder := by kernel_rfl
  t5 := Tryz.underlying5
  a5 := Tryz.isAgg5
  z5 := Tryz.sizeOf5
  v5 := Tryz.zeroValue5
  infoByte := by kernel_rfl
  cellsByte := by kernel_rfl
  sizeByte := by kernel_rfl
  neB5 := by decide }
open Go.RowKit in
/-- strings.ToLower: "ToLower returns s with all Unicode letters mapped to their lower case.": ON ASCII TEXT OF AT MOST 2^47 BYTES. Below the heap's end the world is as it was: where a letter turns, the call makes a builder and its buffer. (LAID: no walk: one application.) -/
theorem Tryz.strings_ToLower_ascii (s : ByteArray) (w : World) (hs : s.size ≤ 140737488355328) (hascii : ∀ (j : Nat) (b : UInt8), s.data.toList[j]? = some b → b.toNat < 128) :
    Calls Tryz.prog 172 #[.string s] w fun e w' => e = .returned (.string ⟨(Lib.toLowerA s.data.toList).toArray⟩) ∧ Below w.heap.size w w' := Any.strings_ToLower_ascii Tryz.lays159 Tryz.Builder_Extra_159 s w hs hascii
def Tryz.lays118_ren : Go.Shelf.Ren := ⟨fun | 118 => 215 | n => n, fun | 21 => 21 | 3 => 3 | 4 => 4 | n => n, fun | n => n⟩
theorem Tryz.lays118 : Go.Proofs.Lays.n118 Tryz.prog Tryz.lays118_ren := {
  mixed := by kernel_rfl
  f118 := Tryz.func215.trans (congrArg some (by kernel_rfl))
  t3 := Tryz.underlying3
  a3 := Tryz.isAgg3
  z3 := Tryz.sizeOf3
  v3 := Tryz.zeroValue3
  t4 := Tryz.underlying4
  a4 := Tryz.isAgg4
  z4 := Tryz.sizeOf4
  v4 := Tryz.zeroValue4
  t21 := Tryz.underlying21
  a21 := Tryz.isAgg21
  z21 := Tryz.sizeOf21
  v21 := Tryz.zeroValue21 }
/-- utf8.RuneLen: "RuneLen returns the number of bytes in the UTF-8 encoding of the rune. It returns -1 if the rune is not a valid value to encode in UTF-8.": IT RETURNS 'Lib.runeLen r'; the world is as it was. (LAID: no walk: one application.) -/
theorem Tryz.utf8_RuneLen (r : Int) (w : World) :
    Calls Tryz.prog 215 #[.int .i32 r] w fun e w' => e = .returned (.int .i64 (Lib.runeLen r)) ∧ w' = w := Any.utf8_RuneLen Tryz.lays118 r w
def Tryz.lays128_ren : Go.Shelf.Ren := ⟨fun | 128 => 211 | n => n, fun | 51 => 213 | 3 => 3 | 4 => 4 | 46 => 202 | 5 => 5 | 9 => 9 | n => n, fun | n => n⟩
theorem Tryz.lays128 : Go.Proofs.Lays.n128 Tryz.prog Tryz.lays128_ren := {
  mixed := by kernel_rfl
  f128 := Tryz.func211.trans (congrArg some (by kernel_rfl))
  t3 := Tryz.underlying3
  a3 := Tryz.isAgg3
  z3 := Tryz.sizeOf3
  v3 := Tryz.zeroValue3
  t4 := Tryz.underlying4
  a4 := Tryz.isAgg4
  z4 := Tryz.sizeOf4
  v4 := Tryz.zeroValue4
  t5 := Tryz.underlying5
  a5 := Tryz.isAgg5
  z5 := Tryz.sizeOf5
  v5 := Tryz.zeroValue5
  t9 := Tryz.underlying9
  a9 := Tryz.isAgg9
  z9 := Tryz.sizeOf9
  v9 := Tryz.zeroValue9
  t46 := Tryz.underlying202
  a46 := Tryz.isAgg202
  z46 := Tryz.sizeOf202
  v46 := Tryz.zeroValue202
  t51 := Tryz.underlying213
  a51 := Tryz.isAgg213
  z51 := Tryz.sizeOf213
  v51 := Tryz.zeroValue213 }
/-- bits.Len32: "Len32 returns the minimum number of bits required to represent x; the result is 0 for x == 0.": IT RETURNS 'Lib.bitLen x'; the world is as it was. ('h0', 'h1': x is a uint32.) (LAID: no walk: one application.) -/
theorem Tryz.bits_Len32 (x : Int) (w : World) (h0 : 0 ≤ x) (h1 : x ≤ 4294967295) :
    Calls Tryz.prog 211 #[.int .u32 x] w fun e w' => e = .returned (.int .i64 (Lib.bitLen x.toNat)) ∧ w' = w := Any.bits_Len32 Tryz.lays128 x w h0 h1
def Tryz.lays125_ren : Go.Shelf.Ren := ⟨fun | 125 => 177 | 128 => 211 | 129 => 189 | n => n, fun | 46 => 202 | 3 => 3 | 51 => 213 | 53 => 212 | 4 => 4 | 5 => 5 | 9 => 9 | n => n, fun | n => n⟩
theorem Tryz.lays125 : Go.Proofs.Lays.n125 Tryz.prog Tryz.lays125_ren := {
  mixed := by kernel_rfl
  f125 := Tryz.func177.trans (congrArg some (by kernel_rfl))
  f128 := Tryz.func211.trans (congrArg some (by kernel_rfl))
  f129 := Tryz.func189.trans (congrArg some (by kernel_rfl))
  t3 := Tryz.underlying3
  a3 := Tryz.isAgg3
  z3 := Tryz.sizeOf3
  v3 := Tryz.zeroValue3
  t4 := Tryz.underlying4
  a4 := Tryz.isAgg4
  z4 := Tryz.sizeOf4
  v4 := Tryz.zeroValue4
  t5 := Tryz.underlying5
  a5 := Tryz.isAgg5
  z5 := Tryz.sizeOf5
  v5 := Tryz.zeroValue5
  t9 := Tryz.underlying9
  a9 := Tryz.isAgg9
  z9 := Tryz.sizeOf9
  v9 := Tryz.zeroValue9
  t46 := Tryz.underlying202
  a46 := Tryz.isAgg202
  z46 := Tryz.sizeOf202
  v46 := Tryz.zeroValue202
  t51 := Tryz.underlying213
  a51 := Tryz.isAgg213
  z51 := Tryz.sizeOf213
  v51 := Tryz.zeroValue213
  t53 := Tryz.underlying212
  a53 := Tryz.isAgg212
  z53 := Tryz.sizeOf212
  v53 := Tryz.zeroValue212 }
/-- bits.Len: "Len returns the minimum number of bits required to represent x; the result is 0 for x == 0.": IT RETURNS 'Lib.bitLen x'; the world is as it was. (A uint has 64 bits in the model.) ITS CALLEE bits.Len64 IS MET BY ITS OWN CONTRACT OFF THE SHELF (lay that first). (LAID: no walk: one application.) -/
theorem Tryz.bits_Len (x : Int) (w : World) (h0 : 0 ≤ x) (h1 : x ≤ 18446744073709551615) :
    Calls Tryz.prog 177 #[.int .u64 x] w fun e w' => e = .returned (.int .i64 (Lib.bitLen x.toNat)) ∧ w' = w := Any.bits_Len Tryz.lays125 x w h0 h1
open Go.RowKit in
/-- (*strings.Builder).String: "String returns the accumulated string.": OF A BUILDER THAT HOLDS AT LEAST ONE BYTE. ✋ THE MODEL FREEZES THOSE BYTES IN THE BUFFER (unsafe.String): a later write INTO them ends the model's run without an answer; a later append BEHIND them goes on. The statement's order of evaluation is drawn: one draw. THE FORM '_f': IT SAYS BESIDES THAT THE BUILDER IS A BUILDER STILL ('Lib.IsBuilderF', the same bytes): SO IT CAN BE WRITTEN ON: 'b.WriteString(b.String()[:k])'. (LAID: no walk: one application.) -/
theorem Tryz.Builder_String_f (B b : Nat) (l : List UInt8) (w : World) (h : Lib.IsBuilderF 205 5 B b (Lib.byteCells l) w) (h0 : l ≠ []) :
    Calls Tryz.prog 181 #[.pointer (some ⟨b, 0, none⟩)] w fun e w' => e = .returned (.string ⟨l.toArray⟩) ∧ (Lib.IsBuilderF 205 5 B b (Lib.byteCells l) w' ∧ Below B w w') := Any.Builder_String_f Tryz.lays169 Tryz.Builder_Extra_169 B b l w h h0
open Go.RowKit in
/-- (*strings.Builder).String OF A BUILDER THAT HOLDS NO BYTE: the empty string; THE FORM '_f': a builder still. (LAID: no walk: one application.) -/
theorem Tryz.Builder_String_empty_f (B b : Nat) (w : World) (h : Lib.IsBuilderF 205 5 B b [] w) (hBw : B ≤ w.heap.size) :
    Calls Tryz.prog 181 #[.pointer (some ⟨b, 0, none⟩)] w fun e w' => e = .returned (.string ⟨#[]⟩) ∧ (Lib.IsBuilderF 205 5 B b [] w' ∧ Below B w w') := Any.Builder_String_empty_f Tryz.lays169 Tryz.Builder_Extra_169 B b w h hBw
open Go.RowKit in
/-- (*strings.Builder).String: "String returns the accumulated string.": WHATEVER THE BUILDER HOLDS; THE FORM '_f': OF A BUILDER THAT MAY HAVE BEEN READ BEFORE; AND IT IS A BUILDER STILL, holding the same bytes: it can be written on. (LAID: no walk: one application.) -/
theorem Tryz.Builder_String_any_f (B b : Nat) (l : List UInt8) (w : World) (h : Lib.IsBuilderF 205 5 B b (Lib.byteCells l) w) (hBw : B ≤ w.heap.size) :
    Calls Tryz.prog 181 #[.pointer (some ⟨b, 0, none⟩)] w fun e w' => e = .returned (.string ⟨l.toArray⟩) ∧ (Lib.IsBuilderF 205 5 B b (Lib.byteCells l) w' ∧ Below B w w') := Any.Builder_String_any_f Tryz.lays169 Tryz.Builder_Extra_169 B b l w h hBw
open Go.RowKit in
/-- (*strings.Builder).String: "String returns the accumulated string.": OF A BUILDER THAT HOLDS AT LEAST ONE BYTE. ✋ THE MODEL FREEZES THOSE BYTES IN THE BUFFER (unsafe.String): a later write INTO them ends the model's run without an answer; a later append BEHIND them goes on. The statement's order of evaluation is drawn: one draw. THE FORM '_k': OVER 'Lib.IsBuilderF' (a builder that 'String()' may have read), AND WITH THE FRAME THAT REACHES ABOVE THE BUILDER: 'Lib.OthersKept': every block that is not b and is no row of uint8's stands as it stood: the iterator of a range among them. (LAID: no walk: one application.) -/
theorem Tryz.Builder_String_k (B b : Nat) (l : List UInt8) (w : World) (h : Lib.IsBuilderF 205 5 B b (Lib.byteCells l) w) (h0 : l ≠ []) :
    Calls Tryz.prog 181 #[.pointer (some ⟨b, 0, none⟩)] w fun e w' => e = .returned (.string ⟨l.toArray⟩) ∧ (Lib.IsBuilderF 205 5 B b (Lib.byteCells l) w' ∧ Below B w w' ∧ Lib.OthersKept 5 (some b) w w') := Any.Builder_String_k Tryz.lays169 Tryz.Builder_Extra_169 B b l w h h0
open Go.RowKit in
/-- (*strings.Builder).String OF A BUILDER THAT HOLDS NO BYTE: the empty string; THE FORM '_k': OVER 'Lib.IsBuilderF' (a builder that 'String()' may have read), AND WITH THE FRAME THAT REACHES ABOVE THE BUILDER: 'Lib.OthersKept': every block that is not b and is no row of uint8's stands as it stood: the iterator of a range among them. (LAID: no walk: one application.) -/
theorem Tryz.Builder_String_empty_k (B b : Nat) (w : World) (h : Lib.IsBuilderF 205 5 B b [] w) (hBw : B ≤ w.heap.size) :
    Calls Tryz.prog 181 #[.pointer (some ⟨b, 0, none⟩)] w fun e w' => e = .returned (.string ⟨#[]⟩) ∧ (Lib.IsBuilderF 205 5 B b [] w' ∧ Below B w w' ∧ Lib.OthersKept 5 (some b) w w') := Any.Builder_String_empty_k Tryz.lays169 Tryz.Builder_Extra_169 B b w h hBw
open Go.RowKit in
/-- (*strings.Builder).String: "String returns the accumulated string.": WHATEVER THE BUILDER HOLDS; THE FORM '_k': OVER 'Lib.IsBuilderF' (a builder that 'String()' may have read), AND WITH THE FRAME THAT REACHES ABOVE THE BUILDER: 'Lib.OthersKept': every block that is not b and is no row of uint8's stands as it stood: the iterator of a range among them. (LAID: no walk: one application.) -/
theorem Tryz.Builder_String_any_k (B b : Nat) (l : List UInt8) (w : World) (h : Lib.IsBuilderF 205 5 B b (Lib.byteCells l) w) (hBw : B ≤ w.heap.size) :
    Calls Tryz.prog 181 #[.pointer (some ⟨b, 0, none⟩)] w fun e w' => e = .returned (.string ⟨l.toArray⟩) ∧ (Lib.IsBuilderF 205 5 B b (Lib.byteCells l) w' ∧ Below B w w' ∧ Lib.OthersKept 5 (some b) w w') := Any.Builder_String_any_k Tryz.lays169 Tryz.Builder_Extra_169 B b l w h hBw
open Go.RowKit in
/-- (*strings.Builder).grow (no doc but "grow copies the buffer to a new, larger buffer so that there are at least n bytes of capacity beyond len(b.buf)."): AT A BUILDER WITHOUT A BUFFER: a new row of whatever bytes for its buffer, none of them its own yet. Three draws. (LAID: no walk: one application.) -/
theorem Tryz.Builder_grow_fresh_cap (B b n : Nat) (w : World) (hB : B ≤ b) (hbk : w.heap[b]? = some (.cells #[.pointer (some ⟨b, 0, none⟩), .slice none 0 0] 205 (0, 0))) (hBw : B ≤ w.heap.size) (hn : n ≤ 281474976710656) :
    Calls Tryz.prog 213 #[.pointer (some ⟨b, 0, none⟩), .int .i64 n] w fun e w' => e = .returned (.tuple #[]) ∧ (Lib.BuilderAt 205 5 B b (.pointer (some ⟨b, 0, none⟩)) [] w' ∧ Below B w w') ∧ ∃ p cap, w'.cell? ⟨b, 1, none⟩ = some (.slice p 0 cap) ∧ n ≤ cap := Any.Builder_grow_fresh_cap Tryz.lays241 Tryz.Builder_Extra_241 B b n w hB hbk hBw hn
open Go.RowKit in
/-- (*strings.Builder).Grow AT A BUILDER THAT HAS NOT BEEN WRITTEN ('var b strings.Builder; b.Grow(n)'): "Grow grows b's capacity, if necessary, to guarantee space for another n bytes.": it holds no byte behind it as before it. (LAID: no walk: one application.) -/
theorem Tryz.Builder_Grow_fresh_cap (B b n : Nat) (w : World) (hB : B ≤ b) (hbk : w.heap[b]? = some (.cells #[.pointer none, .slice none 0 0] 205 (0, 0))) (hBw : B ≤ w.heap.size) (hn : n ≤ 281474976710656) :
    Calls Tryz.prog 178 #[.pointer (some ⟨b, 0, none⟩), .int .i64 n] w fun e w' => e = .returned (.tuple #[]) ∧ (Lib.BuilderAt 205 5 B b (.pointer (some ⟨b, 0, none⟩)) [] w' ∧ Below B w w') ∧ ∃ p cap, w'.cell? ⟨b, 1, none⟩ = some (.slice p 0 cap) ∧ n ≤ cap := Any.Builder_Grow_fresh_cap Tryz.lays165 Tryz.Builder_Extra_165 B b n w hB hbk hBw hn
def Tryz.lays129_ren : Go.Shelf.Ren := ⟨fun | 129 => 189 | n => n, fun | 53 => 212 | 3 => 3 | 4 => 4 | 46 => 202 | 5 => 5 | 9 => 9 | n => n, fun | n => n⟩
theorem Tryz.lays129 : Go.Proofs.Lays.n129 Tryz.prog Tryz.lays129_ren := {
  mixed := by kernel_rfl
  f129 := Tryz.func189.trans (congrArg some (by kernel_rfl))
  t3 := Tryz.underlying3
  a3 := Tryz.isAgg3
  z3 := Tryz.sizeOf3
  v3 := Tryz.zeroValue3
  t4 := Tryz.underlying4
  a4 := Tryz.isAgg4
  z4 := Tryz.sizeOf4
  v4 := Tryz.zeroValue4
  t5 := Tryz.underlying5
  a5 := Tryz.isAgg5
  z5 := Tryz.sizeOf5
  v5 := Tryz.zeroValue5
  t9 := Tryz.underlying9
  a9 := Tryz.isAgg9
  z9 := Tryz.sizeOf9
  v9 := Tryz.zeroValue9
  t46 := Tryz.underlying202
  a46 := Tryz.isAgg202
  z46 := Tryz.sizeOf202
  v46 := Tryz.zeroValue202
  t53 := Tryz.underlying212
  a53 := Tryz.isAgg212
  z53 := Tryz.sizeOf212
  v53 := Tryz.zeroValue212 }
/-- bits.Len64: "Len64 returns the minimum number of bits required to represent x; the result is 0 for x == 0.": IT RETURNS 'Lib.bitLen x'; the world is as it was. ('h0', 'h1': x is a uint64.) (LAID: no walk: one application.) -/
theorem Tryz.bits_Len64 (x : Int) (w : World) (h0 : 0 ≤ x) (h1 : x ≤ 18446744073709551615) :
    Calls Tryz.prog 189 #[.int .u64 x] w fun e w' => e = .returned (.int .i64 (Lib.bitLen x.toNat)) ∧ w' = w := Any.bits_Len64 Tryz.lays129 x w h0 h1
def Tryz.lays317_ren : Go.Shelf.Ren := ⟨fun | 317 => 193 | n => n, fun | 3 => 3 | 46 => 202 | n => n, fun | n => n⟩
theorem Tryz.lays317 : Go.Proofs.Lays.n317 Tryz.prog Tryz.lays317_ren := {
  mixed := by kernel_rfl
  f317 := Tryz.func193.trans (congrArg some (by kernel_rfl))
  t3 := Tryz.underlying3
  a3 := Tryz.isAgg3
  z3 := Tryz.sizeOf3
  v3 := Tryz.zeroValue3
  t46 := Tryz.underlying202
  a46 := Tryz.isAgg202
  z46 := Tryz.sizeOf202
  v46 := Tryz.zeroValue202 }
open Go.Lib in
/-- internal/strconv.log10Pow2: "log10Pow2(x) returns ⌊log₁₀ 2**x⌋ = ⌊x * log₁₀ 2⌋.": '(x * 78913) >> 18', at an x up to 64 (a length in bits). The world is as it was. (LAID: no walk: one application.) -/
theorem Tryz.internal_strconv_log10Pow2 (x : Nat) (h : x ≤ 64) (w : World) :
    Calls Tryz.prog 193 #[.int .i64 x] w fun e w' => e = .returned (.int .i64 (Lib.l10 x)) ∧ w' = w := Any.internal_strconv_log10Pow2 Tryz.lays317 x h w
def Tryz.lays318_ren : Go.Shelf.Ren := ⟨fun | 318 => 230 | n => n, fun | 3 => 3 | 4 => 4 | n => n, fun | n => n⟩
theorem Tryz.lays318 : Go.Proofs.Lays.n318 Tryz.prog Tryz.lays318_ren := {
  mixed := by kernel_rfl
  f318 := Tryz.func230.trans (congrArg some (by kernel_rfl))
  t3 := Tryz.underlying3
  a3 := Tryz.isAgg3
  z3 := Tryz.sizeOf3
  v3 := Tryz.zeroValue3
  t4 := Tryz.underlying4
  a4 := Tryz.isAgg4
  z4 := Tryz.sizeOf4
  v4 := Tryz.zeroValue4 }
open Go.Lib in
/-- internal/strconv.bool2: "bool2 converts b to an integer: 1 for true, 0 for false." The world is as it was. (LAID: no walk: one application.) -/
theorem Tryz.internal_strconv_bool2_int (b : Bool) (w : World) :
    Calls Tryz.prog 230 #[.bool b] w fun e w' => e = .returned (.int .i64 (if b then 1 else 0)) ∧ w' = w := Any.internal_strconv_bool2_int Tryz.lays318 b w
def Tryz.lays283_ren : Go.Shelf.Ren := ⟨fun | 283 => 199 | n => n, fun | 3 => 3 | 9 => 9 | 4 => 4 | n => n, fun | n => n⟩
theorem Tryz.lays283 : Go.Proofs.Lays.n283 Tryz.prog Tryz.lays283_ren := {
  mixed := by kernel_rfl
  f283 := Tryz.func199.trans (congrArg some (by kernel_rfl))
  t3 := Tryz.underlying3
  a3 := Tryz.isAgg3
  z3 := Tryz.sizeOf3
  v3 := Tryz.zeroValue3
  t4 := Tryz.underlying4
  a4 := Tryz.isAgg4
  z4 := Tryz.sizeOf4
  v4 := Tryz.zeroValue4
  t9 := Tryz.underlying9
  a9 := Tryz.isAgg9
  z9 := Tryz.sizeOf9
  v9 := Tryz.zeroValue9 }
open Go.Lib in
/-- internal/strconv.small: "small returns the string for an i with 0 <= i < nSmalls.": i's decimal numeral. The world is as it was. (LAID: no walk: one application.) -/
theorem Tryz.internal_strconv_small (i : Nat) (h : i < 100) (w : World) :
    Calls Tryz.prog 199 #[.int .i64 i] w fun e w' => e = .returned (.string ⟨(Lib.decDigits i).toArray⟩) ∧ w' = w := Any.internal_strconv_small Tryz.lays283 i h w
def Tryz.laysM284_ren : Go.Shelf.Ren := ⟨fun | 284 => 192 | 129 => 189 | 317 => 193 | 318 => 230 | n => n, fun | 53 => 212 | 3 => 3 | 212 => 264 | 0 => 0 | 4 => 4 | 46 => 202 | 5 => 5 | 9 => 9 | n => n, fun | 17 => 1 | n => n⟩
theorem Tryz.laysM284 : Go.Proofs.LaysM.n284 Tryz.prog Tryz.laysM284_ren := {
  mixed := by kernel_rfl
  f129 := Tryz.func189.trans (congrArg some (by kernel_rfl))
  f284 := Tryz.func192.trans (congrArg some (by kernel_rfl))
  f317 := Tryz.func193.trans (congrArg some (by kernel_rfl))
  f318 := Tryz.func230.trans (congrArg some (by kernel_rfl))
  t0 := Tryz.underlying0
  a0 := Tryz.isAgg0
  z0 := Tryz.sizeOf0
  v0 := Tryz.zeroValue0
  t3 := Tryz.underlying3
  a3 := Tryz.isAgg3
  z3 := Tryz.sizeOf3
  v3 := Tryz.zeroValue3
  t4 := Tryz.underlying4
  a4 := Tryz.isAgg4
  z4 := Tryz.sizeOf4
  v4 := Tryz.zeroValue4
  t5 := Tryz.underlying5
  a5 := Tryz.isAgg5
  z5 := Tryz.sizeOf5
  v5 := Tryz.zeroValue5
  t9 := Tryz.underlying9
  a9 := Tryz.isAgg9
  z9 := Tryz.sizeOf9
  v9 := Tryz.zeroValue9
  t46 := Tryz.underlying202
  a46 := Tryz.isAgg202
  z46 := Tryz.sizeOf202
  v46 := Tryz.zeroValue202
  t53 := Tryz.underlying212
  a53 := Tryz.isAgg212
  z53 := Tryz.sizeOf212
  v53 := Tryz.zeroValue212
  t212 := Tryz.underlying264
  a212 := Tryz.isAgg264
  z212 := Tryz.sizeOf264
  v212 := Tryz.zeroValue264
  g17 := by kernel_rfl
  i0 := by kernel_rfl
  i3 := by kernel_rfl
  i4 := by kernel_rfl
  i5 := by kernel_rfl
  i9 := by kernel_rfl
  i46 := by kernel_rfl
  i53 := by kernel_rfl
  i212 := by kernel_rfl
  m17 := by kernel_rfl }
open Go.Lib in
/-- internal/strconv.numDigits, at a d that is not 0: THE NUMBER OF d's DECIMAL DIGITS. The world is as it was. (LAID: no walk: one application.) -/
theorem Tryz.internal_strconv_numDigits (u : Nat) (h1 : 1 ≤ u) (h2 : u < 18446744073709551616) (w : World) (htab : Lib.TabIs Tryz.prog w "internal/strconv.uint64pow10" .u64 Lib.pow10Tab) :
    Calls Tryz.prog 192 #[.int .u64 u] w fun e w' => e = .returned (.int .i64 (Lib.nDigits u)) ∧ w' = w := Any.internal_strconv_numDigits Tryz.laysM284 u h1 h2 w htab
def Tryz.lays285_ren : Go.Shelf.Ren := ⟨fun | 285 => 200 | n => n, fun | 37 => 195 | 53 => 212 | 3 => 3 | 4 => 4 | 51 => 213 | 9 => 9 | 5 => 5 | 0 => 0 | n => n, fun | n => n⟩
theorem Tryz.lays285 : Go.Proofs.Lays.n285 Tryz.prog Tryz.lays285_ren := {
  mixed := by kernel_rfl
  f285 := Tryz.func200.trans (congrArg some (by kernel_rfl))
  t0 := Tryz.underlying0
  a0 := Tryz.isAgg0
  z0 := Tryz.sizeOf0
  v0 := Tryz.zeroValue0
  t3 := Tryz.underlying3
  a3 := Tryz.isAgg3
  z3 := Tryz.sizeOf3
  v3 := Tryz.zeroValue3
  t4 := Tryz.underlying4
  a4 := Tryz.isAgg4
  z4 := Tryz.sizeOf4
  v4 := Tryz.zeroValue4
  t5 := Tryz.underlying5
  a5 := Tryz.isAgg5
  z5 := Tryz.sizeOf5
  v5 := Tryz.zeroValue5
  t9 := Tryz.underlying9
  a9 := Tryz.isAgg9
  z9 := Tryz.sizeOf9
  v9 := Tryz.zeroValue9
  t37 := Tryz.underlying195
  a37 := Tryz.isAgg195
  z37 := Tryz.sizeOf195
  v37 := Tryz.zeroValue195
  t51 := Tryz.underlying213
  a51 := Tryz.isAgg213
  z51 := Tryz.sizeOf213
  v51 := Tryz.zeroValue213
  t53 := Tryz.underlying212
  a53 := Tryz.isAgg212
  z53 := Tryz.sizeOf212
  v53 := Tryz.zeroValue212 }
open Go.RowKit Go.Sort Go.Lib in
/-- internal/strconv.formatBase10: "formatBase10 formats the decimal representation of u into a. The caller is responsible for ensuring that a is big enough to hold u. If a is too big, leading zeros will be filled in as needed.": THE ROW HOLDS u's DIGITS ('FmtInv .. 0 ..': every place t holds 'dg u (len - 1 - t)'); all else is as it was but for the count of draws. (LAID: no walk: one application.) -/
theorem Tryz.internal_strconv_formatBase10 (blk off cap : Nat) (u : Nat) (d : Array UInt8) (w : World) (hH : Holds (fun (b : UInt8) => Value.int .u8 (b.toNat : Int)) w blk off d) (hu : u < 10 ^ d.size) (hu64 : u < 18446744073709551616) (hsz : d.size < 4611686018427387904) :
    Calls Tryz.prog 200 #[.slice (some ⟨blk, off, none⟩) d.size cap, .int .u64 u] w fun e w' =>
      e = .returned (.tuple #[]) ∧ ∃ (n v' : Nat) (dk : Array UInt8), w' = (putRow (fun (b : UInt8) => Value.int .u8 (b.toNat : Int)) w blk off dk).drewN n ∧ FmtInv d.size u 0 v' dk := Any.internal_strconv_formatBase10 Tryz.lays285 blk off cap u d w hH hu hu64 hsz
def Tryz.laysM246_ren : Go.Shelf.Ren := ⟨fun | 246 => 175 | 283 => 199 | 284 => 192 | 285 => 200 | 286 => 201 | 129 => 189 | 317 => 193 | 318 => 230 | 319 => 239 | 320 => 240 | 337 => 256 | 338 => 257 | n => n, fun | 2 => 2 | 3 => 3 | 9 => 9 | 4 => 4 | 171 => 226 | 0 => 0 | 53 => 212 | 37 => 195 | 5 => 5 | 173 => 234 | 212 => 264 | 51 => 213 | 20 => 20 | 213 => 269 | 46 => 202 | 232 => 219 | 233 => 302 | n => n, fun | 17 => 1 | 18 => 8 | 19 => 9 | n => n⟩
theorem Tryz.laysM246 : Go.Proofs.LaysM.n246 Tryz.prog Tryz.laysM246_ren := {
  mixed := by kernel_rfl
  f129 := Tryz.func189.trans (congrArg some (by kernel_rfl))
  f246 := Tryz.func175.trans (congrArg some (by kernel_rfl))
  f283 := Tryz.func199.trans (congrArg some (by kernel_rfl))
  f284 := Tryz.func192.trans (congrArg some (by kernel_rfl))
  f285 := Tryz.func200.trans (congrArg some (by kernel_rfl))
  f286 := Tryz.func201.trans (congrArg some (by kernel_rfl))
  f317 := Tryz.func193.trans (congrArg some (by kernel_rfl))
  f318 := Tryz.func230.trans (congrArg some (by kernel_rfl))
  f319 := Tryz.func239.trans (congrArg some (by kernel_rfl))
  f320 := Tryz.func240.trans (congrArg some (by kernel_rfl))
  f337 := Tryz.func256.trans (congrArg some (by kernel_rfl))
  f338 := Tryz.func257.trans (congrArg some (by kernel_rfl))
  t0 := Tryz.underlying0
  a0 := Tryz.isAgg0
  z0 := Tryz.sizeOf0
  v0 := Tryz.zeroValue0
  t2 := Tryz.underlying2
  a2 := Tryz.isAgg2
  z2 := Tryz.sizeOf2
  v2 := Tryz.zeroValue2
  t3 := Tryz.underlying3
  a3 := Tryz.isAgg3
  z3 := Tryz.sizeOf3
  v3 := Tryz.zeroValue3
  t4 := Tryz.underlying4
  a4 := Tryz.isAgg4
  z4 := Tryz.sizeOf4
  v4 := Tryz.zeroValue4
  t5 := Tryz.underlying5
  a5 := Tryz.isAgg5
  z5 := Tryz.sizeOf5
  v5 := Tryz.zeroValue5
  t9 := Tryz.underlying9
  a9 := Tryz.isAgg9
  z9 := Tryz.sizeOf9
  v9 := Tryz.zeroValue9
  t20 := Tryz.underlying20
  a20 := Tryz.isAgg20
  z20 := Tryz.sizeOf20
  v20 := Tryz.zeroValue20
  t37 := Tryz.underlying195
  a37 := Tryz.isAgg195
  z37 := Tryz.sizeOf195
  v37 := Tryz.zeroValue195
  t46 := Tryz.underlying202
  a46 := Tryz.isAgg202
  z46 := Tryz.sizeOf202
  v46 := Tryz.zeroValue202
  t51 := Tryz.underlying213
  a51 := Tryz.isAgg213
  z51 := Tryz.sizeOf213
  v51 := Tryz.zeroValue213
  t53 := Tryz.underlying212
  a53 := Tryz.isAgg212
  z53 := Tryz.sizeOf212
  v53 := Tryz.zeroValue212
  t171 := Tryz.underlying226
  a171 := Tryz.isAgg226
  z171 := Tryz.sizeOf226
  v171 := Tryz.zeroValue226
  t173 := Tryz.underlying234
  a173 := Tryz.isAgg234
  z173 := Tryz.sizeOf234
  v173 := Tryz.zeroValue234
  t212 := Tryz.underlying264
  a212 := Tryz.isAgg264
  z212 := Tryz.sizeOf264
  v212 := Tryz.zeroValue264
  t213 := Tryz.underlying269
  a213 := Tryz.isAgg269
  z213 := Tryz.sizeOf269
  t232 := Tryz.underlying219
  a232 := Tryz.isAgg219
  z232 := Tryz.sizeOf219
  v232 := Tryz.zeroValue219
  t233 := Tryz.underlying302
  a233 := Tryz.isAgg302
  z233 := Tryz.sizeOf302
  v233 := Tryz.zeroValue302
  g17 := by kernel_rfl
  g18 := by kernel_rfl
  g19 := by kernel_rfl
  i0 := by kernel_rfl
  i2 := by kernel_rfl
  i3 := by kernel_rfl
  i4 := by kernel_rfl
  i5 := by kernel_rfl
  i9 := by kernel_rfl
  i20 := by kernel_rfl
  i37 := by kernel_rfl
  i46 := by kernel_rfl
  i51 := by kernel_rfl
  i53 := by kernel_rfl
  i171 := by kernel_rfl
  i173 := by kernel_rfl
  i212 := by kernel_rfl
  i232 := by kernel_rfl
  i233 := by kernel_rfl
  m17 := by kernel_rfl
  m18 := by kernel_rfl
  m19 := by kernel_rfl }
open Go.RowKit Go.Sort Go.Lib in
/-- internal/strconv.FormatInt: "FormatInt returns the string representation of i in the given base": AT BASE 10: i's decimal numeral, for every int64. The world behind the call: the world before it, new blocks behind the heap, draws. (LAID: no walk: one application.) -/
theorem Tryz.internal_strconv_FormatInt_10 (n : Int) (h0 : -9223372036854775808 ≤ n) (h1 : n ≤ 9223372036854775807) (w : World) (htab : Lib.TabIs Tryz.prog w "internal/strconv.uint64pow10" .u64 Lib.pow10Tab) :
    Calls Tryz.prog 175 #[.int .i64 n, .int .i64 10] w fun e w' => e = .returned (.string ⟨(Lib.itoa n).toArray⟩) ∧ ∃ k os, w' = grow (w.drewN k) os := Any.internal_strconv_FormatInt_10 Tryz.laysM246 n h0 h1 w htab
def Tryz.lays246_ren : Go.Shelf.Ren := ⟨fun | 246 => 175 | 283 => 199 | 284 => 192 | 285 => 200 | 286 => 201 | 129 => 189 | 317 => 193 | 318 => 230 | 319 => 239 | 320 => 240 | 337 => 256 | 338 => 257 | n => n, fun | 2 => 2 | 3 => 3 | 9 => 9 | 4 => 4 | 171 => 226 | 0 => 0 | 53 => 212 | 37 => 195 | 5 => 5 | 173 => 234 | 212 => 264 | 51 => 213 | 20 => 20 | 213 => 269 | 46 => 202 | 232 => 219 | 233 => 302 | n => n, fun | 17 => 1 | 18 => 8 | 19 => 9 | n => n⟩
theorem Tryz.lays246 : Go.Proofs.Lays.n246 Tryz.prog Tryz.lays246_ren := {
  mixed := by kernel_rfl
  f129 := Tryz.func189.trans (congrArg some (by kernel_rfl))
  f246 := Tryz.func175.trans (congrArg some (by kernel_rfl))
  f283 := Tryz.func199.trans (congrArg some (by kernel_rfl))
  f284 := Tryz.func192.trans (congrArg some (by kernel_rfl))
  f285 := Tryz.func200.trans (congrArg some (by kernel_rfl))
  f286 := Tryz.func201.trans (congrArg some (by kernel_rfl))
  f317 := Tryz.func193.trans (congrArg some (by kernel_rfl))
  f318 := Tryz.func230.trans (congrArg some (by kernel_rfl))
  f319 := Tryz.func239.trans (congrArg some (by kernel_rfl))
  f320 := Tryz.func240.trans (congrArg some (by kernel_rfl))
  f337 := Tryz.func256.trans (congrArg some (by kernel_rfl))
  f338 := Tryz.func257.trans (congrArg some (by kernel_rfl))
  t0 := Tryz.underlying0
  a0 := Tryz.isAgg0
  z0 := Tryz.sizeOf0
  v0 := Tryz.zeroValue0
  t2 := Tryz.underlying2
  a2 := Tryz.isAgg2
  z2 := Tryz.sizeOf2
  v2 := Tryz.zeroValue2
  t3 := Tryz.underlying3
  a3 := Tryz.isAgg3
  z3 := Tryz.sizeOf3
  v3 := Tryz.zeroValue3
  t4 := Tryz.underlying4
  a4 := Tryz.isAgg4
  z4 := Tryz.sizeOf4
  v4 := Tryz.zeroValue4
  t5 := Tryz.underlying5
  a5 := Tryz.isAgg5
  z5 := Tryz.sizeOf5
  v5 := Tryz.zeroValue5
  t9 := Tryz.underlying9
  a9 := Tryz.isAgg9
  z9 := Tryz.sizeOf9
  v9 := Tryz.zeroValue9
  t20 := Tryz.underlying20
  a20 := Tryz.isAgg20
  z20 := Tryz.sizeOf20
  v20 := Tryz.zeroValue20
  t37 := Tryz.underlying195
  a37 := Tryz.isAgg195
  z37 := Tryz.sizeOf195
  v37 := Tryz.zeroValue195
  t46 := Tryz.underlying202
  a46 := Tryz.isAgg202
  z46 := Tryz.sizeOf202
  v46 := Tryz.zeroValue202
  t51 := Tryz.underlying213
  a51 := Tryz.isAgg213
  z51 := Tryz.sizeOf213
  v51 := Tryz.zeroValue213
  t53 := Tryz.underlying212
  a53 := Tryz.isAgg212
  z53 := Tryz.sizeOf212
  v53 := Tryz.zeroValue212
  t171 := Tryz.underlying226
  a171 := Tryz.isAgg226
  z171 := Tryz.sizeOf226
  v171 := Tryz.zeroValue226
  t173 := Tryz.underlying234
  a173 := Tryz.isAgg234
  z173 := Tryz.sizeOf234
  v173 := Tryz.zeroValue234
  t212 := Tryz.underlying264
  a212 := Tryz.isAgg264
  z212 := Tryz.sizeOf264
  v212 := Tryz.zeroValue264
  t213 := Tryz.underlying269
  a213 := Tryz.isAgg269
  z213 := Tryz.sizeOf269
  t232 := Tryz.underlying219
  a232 := Tryz.isAgg219
  z232 := Tryz.sizeOf219
  v232 := Tryz.zeroValue219
  t233 := Tryz.underlying302
  a233 := Tryz.isAgg302
  z233 := Tryz.sizeOf302
  v233 := Tryz.zeroValue302
  g17 := by kernel_rfl
  g18 := by kernel_rfl
  g19 := by kernel_rfl }
open Go.RowKit Go.Sort Go.Lib in
/-- THE ROAD WITHOUT THE TABLE: 0 <= i < 100: two constants are read, nothing is laid: no premise on the world, and the world is as it was. (LAID: no walk: one application.) -/
theorem Tryz.internal_strconv_FormatInt_10_small (i : Nat) (hi : i < 100) (w : World) :
    Calls Tryz.prog 175 #[.int .i64 i, .int .i64 10] w fun e w' => e = .returned (.string ⟨(Lib.decDigits i).toArray⟩) ∧ w' = w := Any.internal_strconv_FormatInt_10_small Tryz.lays246 i hi w
def Tryz.laysM243_ren : Go.Shelf.Ren := ⟨fun | 243 => 168 | 246 => 175 | 283 => 199 | 284 => 192 | 285 => 200 | 286 => 201 | 129 => 189 | 317 => 193 | 318 => 230 | 319 => 239 | 320 => 240 | 337 => 256 | 338 => 257 | n => n, fun | 3 => 3 | 9 => 9 | 2 => 2 | 4 => 4 | 171 => 226 | 0 => 0 | 53 => 212 | 37 => 195 | 5 => 5 | 173 => 234 | 212 => 264 | 51 => 213 | 20 => 20 | 213 => 269 | 46 => 202 | 232 => 219 | 233 => 302 | n => n, fun | 17 => 1 | 18 => 8 | 19 => 9 | n => n⟩
theorem Tryz.laysM243 : Go.Proofs.LaysM.n243 Tryz.prog Tryz.laysM243_ren := {
  mixed := by kernel_rfl
  f129 := Tryz.func189.trans (congrArg some (by kernel_rfl))
  f243 := Tryz.func168.trans (congrArg some (by kernel_rfl))
  f246 := Tryz.func175.trans (congrArg some (by kernel_rfl))
  f283 := Tryz.func199.trans (congrArg some (by kernel_rfl))
  f284 := Tryz.func192.trans (congrArg some (by kernel_rfl))
  f285 := Tryz.func200.trans (congrArg some (by kernel_rfl))
  f286 := Tryz.func201.trans (congrArg some (by kernel_rfl))
  f317 := Tryz.func193.trans (congrArg some (by kernel_rfl))
  f318 := Tryz.func230.trans (congrArg some (by kernel_rfl))
  f319 := Tryz.func239.trans (congrArg some (by kernel_rfl))
  f320 := Tryz.func240.trans (congrArg some (by kernel_rfl))
  f337 := Tryz.func256.trans (congrArg some (by kernel_rfl))
  f338 := Tryz.func257.trans (congrArg some (by kernel_rfl))
  t0 := Tryz.underlying0
  a0 := Tryz.isAgg0
  z0 := Tryz.sizeOf0
  v0 := Tryz.zeroValue0
  t2 := Tryz.underlying2
  a2 := Tryz.isAgg2
  z2 := Tryz.sizeOf2
  v2 := Tryz.zeroValue2
  t3 := Tryz.underlying3
  a3 := Tryz.isAgg3
  z3 := Tryz.sizeOf3
  v3 := Tryz.zeroValue3
  t4 := Tryz.underlying4
  a4 := Tryz.isAgg4
  z4 := Tryz.sizeOf4
  v4 := Tryz.zeroValue4
  t5 := Tryz.underlying5
  a5 := Tryz.isAgg5
  z5 := Tryz.sizeOf5
  v5 := Tryz.zeroValue5
  t9 := Tryz.underlying9
  a9 := Tryz.isAgg9
  z9 := Tryz.sizeOf9
  v9 := Tryz.zeroValue9
  t20 := Tryz.underlying20
  a20 := Tryz.isAgg20
  z20 := Tryz.sizeOf20
  v20 := Tryz.zeroValue20
  t37 := Tryz.underlying195
  a37 := Tryz.isAgg195
  z37 := Tryz.sizeOf195
  v37 := Tryz.zeroValue195
  t46 := Tryz.underlying202
  a46 := Tryz.isAgg202
  z46 := Tryz.sizeOf202
  v46 := Tryz.zeroValue202
  t51 := Tryz.underlying213
  a51 := Tryz.isAgg213
  z51 := Tryz.sizeOf213
  v51 := Tryz.zeroValue213
  t53 := Tryz.underlying212
  a53 := Tryz.isAgg212
  z53 := Tryz.sizeOf212
  v53 := Tryz.zeroValue212
  t171 := Tryz.underlying226
  a171 := Tryz.isAgg226
  z171 := Tryz.sizeOf226
  v171 := Tryz.zeroValue226
  t173 := Tryz.underlying234
  a173 := Tryz.isAgg234
  z173 := Tryz.sizeOf234
  v173 := Tryz.zeroValue234
  t212 := Tryz.underlying264
  a212 := Tryz.isAgg264
  z212 := Tryz.sizeOf264
  v212 := Tryz.zeroValue264
  t213 := Tryz.underlying269
  a213 := Tryz.isAgg269
  z213 := Tryz.sizeOf269
  t232 := Tryz.underlying219
  a232 := Tryz.isAgg219
  z232 := Tryz.sizeOf219
  v232 := Tryz.zeroValue219
  t233 := Tryz.underlying302
  a233 := Tryz.isAgg302
  z233 := Tryz.sizeOf302
  v233 := Tryz.zeroValue302
  g17 := by kernel_rfl
  g18 := by kernel_rfl
  g19 := by kernel_rfl
  i0 := by kernel_rfl
  i2 := by kernel_rfl
  i3 := by kernel_rfl
  i4 := by kernel_rfl
  i5 := by kernel_rfl
  i9 := by kernel_rfl
  i20 := by kernel_rfl
  i37 := by kernel_rfl
  i46 := by kernel_rfl
  i51 := by kernel_rfl
  i53 := by kernel_rfl
  i171 := by kernel_rfl
  i173 := by kernel_rfl
  i212 := by kernel_rfl
  i232 := by kernel_rfl
  i233 := by kernel_rfl
  m17 := by kernel_rfl
  m18 := by kernel_rfl
  m19 := by kernel_rfl }
open Go.RowKit Go.Sort Go.Lib in
/-- internal/strconv.Itoa: "Itoa is equivalent to FormatInt(int64(i), 10).": i's decimal numeral, for every int. (LAID: no walk: one application.) -/
theorem Tryz.internal_strconv_Itoa (n : Int) (h0 : -9223372036854775808 ≤ n) (h1 : n ≤ 9223372036854775807) (w : World) (htab : Lib.TabIs Tryz.prog w "internal/strconv.uint64pow10" .u64 Lib.pow10Tab) :
    Calls Tryz.prog 168 #[.int .i64 n] w fun e w' => e = .returned (.string ⟨(Lib.itoa n).toArray⟩) ∧ ∃ k os, w' = grow (w.drewN k) os := Any.internal_strconv_Itoa Tryz.laysM243 n h0 h1 w htab
def Tryz.lays243_ren : Go.Shelf.Ren := ⟨fun | 243 => 168 | 246 => 175 | 283 => 199 | 284 => 192 | 285 => 200 | 286 => 201 | 129 => 189 | 317 => 193 | 318 => 230 | 319 => 239 | 320 => 240 | 337 => 256 | 338 => 257 | n => n, fun | 3 => 3 | 9 => 9 | 2 => 2 | 4 => 4 | 171 => 226 | 0 => 0 | 53 => 212 | 37 => 195 | 5 => 5 | 173 => 234 | 212 => 264 | 51 => 213 | 20 => 20 | 213 => 269 | 46 => 202 | 232 => 219 | 233 => 302 | n => n, fun | 17 => 1 | 18 => 8 | 19 => 9 | n => n⟩
theorem Tryz.lays243 : Go.Proofs.Lays.n243 Tryz.prog Tryz.lays243_ren := {
  mixed := by kernel_rfl
  f129 := Tryz.func189.trans (congrArg some (by kernel_rfl))
  f243 := Tryz.func168.trans (congrArg some (by kernel_rfl))
  f246 := Tryz.func175.trans (congrArg some (by kernel_rfl))
  f283 := Tryz.func199.trans (congrArg some (by kernel_rfl))
  f284 := Tryz.func192.trans (congrArg some (by kernel_rfl))
  f285 := Tryz.func200.trans (congrArg some (by kernel_rfl))
  f286 := Tryz.func201.trans (congrArg some (by kernel_rfl))
  f317 := Tryz.func193.trans (congrArg some (by kernel_rfl))
  f318 := Tryz.func230.trans (congrArg some (by kernel_rfl))
  f319 := Tryz.func239.trans (congrArg some (by kernel_rfl))
  f320 := Tryz.func240.trans (congrArg some (by kernel_rfl))
  f337 := Tryz.func256.trans (congrArg some (by kernel_rfl))
  f338 := Tryz.func257.trans (congrArg some (by kernel_rfl))
  t0 := Tryz.underlying0
  a0 := Tryz.isAgg0
  z0 := Tryz.sizeOf0
  v0 := Tryz.zeroValue0
  t2 := Tryz.underlying2
  a2 := Tryz.isAgg2
  z2 := Tryz.sizeOf2
  v2 := Tryz.zeroValue2
  t3 := Tryz.underlying3
  a3 := Tryz.isAgg3
  z3 := Tryz.sizeOf3
  v3 := Tryz.zeroValue3
  t4 := Tryz.underlying4
  a4 := Tryz.isAgg4
  z4 := Tryz.sizeOf4
  v4 := Tryz.zeroValue4
  t5 := Tryz.underlying5
  a5 := Tryz.isAgg5
  z5 := Tryz.sizeOf5
  v5 := Tryz.zeroValue5
  t9 := Tryz.underlying9
  a9 := Tryz.isAgg9
  z9 := Tryz.sizeOf9
  v9 := Tryz.zeroValue9
  t20 := Tryz.underlying20
  a20 := Tryz.isAgg20
  z20 := Tryz.sizeOf20
  v20 := Tryz.zeroValue20
  t37 := Tryz.underlying195
  a37 := Tryz.isAgg195
  z37 := Tryz.sizeOf195
  v37 := Tryz.zeroValue195
  t46 := Tryz.underlying202
  a46 := Tryz.isAgg202
  z46 := Tryz.sizeOf202
  v46 := Tryz.zeroValue202
  t51 := Tryz.underlying213
  a51 := Tryz.isAgg213
  z51 := Tryz.sizeOf213
  v51 := Tryz.zeroValue213
  t53 := Tryz.underlying212
  a53 := Tryz.isAgg212
  z53 := Tryz.sizeOf212
  v53 := Tryz.zeroValue212
  t171 := Tryz.underlying226
  a171 := Tryz.isAgg226
  z171 := Tryz.sizeOf226
  v171 := Tryz.zeroValue226
  t173 := Tryz.underlying234
  a173 := Tryz.isAgg234
  z173 := Tryz.sizeOf234
  v173 := Tryz.zeroValue234
  t212 := Tryz.underlying264
  a212 := Tryz.isAgg264
  z212 := Tryz.sizeOf264
  v212 := Tryz.zeroValue264
  t213 := Tryz.underlying269
  a213 := Tryz.isAgg269
  z213 := Tryz.sizeOf269
  t232 := Tryz.underlying219
  a232 := Tryz.isAgg219
  z232 := Tryz.sizeOf219
  v232 := Tryz.zeroValue219
  t233 := Tryz.underlying302
  a233 := Tryz.isAgg302
  z233 := Tryz.sizeOf302
  v233 := Tryz.zeroValue302
  g17 := by kernel_rfl
  g18 := by kernel_rfl
  g19 := by kernel_rfl }
open Go.RowKit Go.Sort Go.Lib in
/-- THE ROAD WITHOUT THE TABLE: 0 <= i < 100. (LAID: no walk: one application.) -/
theorem Tryz.internal_strconv_Itoa_small (i : Nat) (hi : i < 100) (w : World) :
    Calls Tryz.prog 168 #[.int .i64 i] w fun e w' => e = .returned (.string ⟨(Lib.decDigits i).toArray⟩) ∧ w' = w := Any.internal_strconv_Itoa_small Tryz.lays243 i hi w
def Tryz.laysM171_ren : Go.Shelf.Ren := ⟨fun | 171 => 116 | 243 => 168 | 246 => 175 | 283 => 199 | 284 => 192 | 285 => 200 | 286 => 201 | 129 => 189 | 317 => 193 | 318 => 230 | 319 => 239 | 320 => 240 | 337 => 256 | 338 => 257 | n => n, fun | 3 => 3 | 9 => 9 | 2 => 2 | 4 => 4 | 171 => 226 | 0 => 0 | 53 => 212 | 37 => 195 | 5 => 5 | 173 => 234 | 212 => 264 | 51 => 213 | 20 => 20 | 213 => 269 | 46 => 202 | 232 => 219 | 233 => 302 | n => n, fun | 17 => 1 | 18 => 8 | 19 => 9 | n => n⟩
theorem Tryz.laysM171 : Go.Proofs.LaysM.n171 Tryz.prog Tryz.laysM171_ren := {
  mixed := by kernel_rfl
  f129 := Tryz.func189.trans (congrArg some (by kernel_rfl))
  f171 := Tryz.func116.trans (congrArg some (by kernel_rfl))
  f243 := Tryz.func168.trans (congrArg some (by kernel_rfl))
  f246 := Tryz.func175.trans (congrArg some (by kernel_rfl))
  f283 := Tryz.func199.trans (congrArg some (by kernel_rfl))
  f284 := Tryz.func192.trans (congrArg some (by kernel_rfl))
  f285 := Tryz.func200.trans (congrArg some (by kernel_rfl))
  f286 := Tryz.func201.trans (congrArg some (by kernel_rfl))
  f317 := Tryz.func193.trans (congrArg some (by kernel_rfl))
  f318 := Tryz.func230.trans (congrArg some (by kernel_rfl))
  f319 := Tryz.func239.trans (congrArg some (by kernel_rfl))
  f320 := Tryz.func240.trans (congrArg some (by kernel_rfl))
  f337 := Tryz.func256.trans (congrArg some (by kernel_rfl))
  f338 := Tryz.func257.trans (congrArg some (by kernel_rfl))
  t0 := Tryz.underlying0
  a0 := Tryz.isAgg0
  z0 := Tryz.sizeOf0
  v0 := Tryz.zeroValue0
  t2 := Tryz.underlying2
  a2 := Tryz.isAgg2
  z2 := Tryz.sizeOf2
  v2 := Tryz.zeroValue2
  t3 := Tryz.underlying3
  a3 := Tryz.isAgg3
  z3 := Tryz.sizeOf3
  v3 := Tryz.zeroValue3
  t4 := Tryz.underlying4
  a4 := Tryz.isAgg4
  z4 := Tryz.sizeOf4
  v4 := Tryz.zeroValue4
  t5 := Tryz.underlying5
  a5 := Tryz.isAgg5
  z5 := Tryz.sizeOf5
  v5 := Tryz.zeroValue5
  t9 := Tryz.underlying9
  a9 := Tryz.isAgg9
  z9 := Tryz.sizeOf9
  v9 := Tryz.zeroValue9
  t20 := Tryz.underlying20
  a20 := Tryz.isAgg20
  z20 := Tryz.sizeOf20
  v20 := Tryz.zeroValue20
  t37 := Tryz.underlying195
  a37 := Tryz.isAgg195
  z37 := Tryz.sizeOf195
  v37 := Tryz.zeroValue195
  t46 := Tryz.underlying202
  a46 := Tryz.isAgg202
  z46 := Tryz.sizeOf202
  v46 := Tryz.zeroValue202
  t51 := Tryz.underlying213
  a51 := Tryz.isAgg213
  z51 := Tryz.sizeOf213
  v51 := Tryz.zeroValue213
  t53 := Tryz.underlying212
  a53 := Tryz.isAgg212
  z53 := Tryz.sizeOf212
  v53 := Tryz.zeroValue212
  t171 := Tryz.underlying226
  a171 := Tryz.isAgg226
  z171 := Tryz.sizeOf226
  v171 := Tryz.zeroValue226
  t173 := Tryz.underlying234
  a173 := Tryz.isAgg234
  z173 := Tryz.sizeOf234
  v173 := Tryz.zeroValue234
  t212 := Tryz.underlying264
  a212 := Tryz.isAgg264
  z212 := Tryz.sizeOf264
  v212 := Tryz.zeroValue264
  t213 := Tryz.underlying269
  a213 := Tryz.isAgg269
  z213 := Tryz.sizeOf269
  t232 := Tryz.underlying219
  a232 := Tryz.isAgg219
  z232 := Tryz.sizeOf219
  v232 := Tryz.zeroValue219
  t233 := Tryz.underlying302
  a233 := Tryz.isAgg302
  z233 := Tryz.sizeOf302
  v233 := Tryz.zeroValue302
  g17 := by kernel_rfl
  g18 := by kernel_rfl
  g19 := by kernel_rfl
  i0 := by kernel_rfl
  i2 := by kernel_rfl
  i3 := by kernel_rfl
  i4 := by kernel_rfl
  i5 := by kernel_rfl
  i9 := by kernel_rfl
  i20 := by kernel_rfl
  i37 := by kernel_rfl
  i46 := by kernel_rfl
  i51 := by kernel_rfl
  i53 := by kernel_rfl
  i171 := by kernel_rfl
  i173 := by kernel_rfl
  i212 := by kernel_rfl
  i232 := by kernel_rfl
  i233 := by kernel_rfl
  m17 := by kernel_rfl
  m18 := by kernel_rfl
  m19 := by kernel_rfl }
open Go.RowKit Go.Sort Go.Lib in
/-- strconv.Itoa: "Itoa is equivalent to FormatInt(int64(i), 10).": i's DECIMAL NUMERAL ('Lib.itoa': a '-' where i is negative, then the digits), FOR EVERY int. The world behind the call: the world before it, new blocks behind the heap (the library's 'var a [24]byte'), draws. (LAID: no walk: one application.) -/
theorem Tryz.strconv_Itoa (n : Int) (h0 : -9223372036854775808 ≤ n) (h1 : n ≤ 9223372036854775807) (w : World) (htab : Lib.TabIs Tryz.prog w "internal/strconv.uint64pow10" .u64 Lib.pow10Tab) :
    Calls Tryz.prog 116 #[.int .i64 n] w fun e w' => e = .returned (.string ⟨(Lib.itoa n).toArray⟩) ∧ ∃ k os, w' = grow (w.drewN k) os := Any.strconv_Itoa Tryz.laysM171 n h0 h1 w htab
def Tryz.lays171_ren : Go.Shelf.Ren := ⟨fun | 171 => 116 | 243 => 168 | 246 => 175 | 283 => 199 | 284 => 192 | 285 => 200 | 286 => 201 | 129 => 189 | 317 => 193 | 318 => 230 | 319 => 239 | 320 => 240 | 337 => 256 | 338 => 257 | n => n, fun | 3 => 3 | 9 => 9 | 2 => 2 | 4 => 4 | 171 => 226 | 0 => 0 | 53 => 212 | 37 => 195 | 5 => 5 | 173 => 234 | 212 => 264 | 51 => 213 | 20 => 20 | 213 => 269 | 46 => 202 | 232 => 219 | 233 => 302 | n => n, fun | 17 => 1 | 18 => 8 | 19 => 9 | n => n⟩
theorem Tryz.lays171 : Go.Proofs.Lays.n171 Tryz.prog Tryz.lays171_ren := {
  mixed := by kernel_rfl
  f129 := Tryz.func189.trans (congrArg some (by kernel_rfl))
  f171 := Tryz.func116.trans (congrArg some (by kernel_rfl))
  f243 := Tryz.func168.trans (congrArg some (by kernel_rfl))
  f246 := Tryz.func175.trans (congrArg some (by kernel_rfl))
  f283 := Tryz.func199.trans (congrArg some (by kernel_rfl))
  f284 := Tryz.func192.trans (congrArg some (by kernel_rfl))
  f285 := Tryz.func200.trans (congrArg some (by kernel_rfl))
  f286 := Tryz.func201.trans (congrArg some (by kernel_rfl))
  f317 := Tryz.func193.trans (congrArg some (by kernel_rfl))
  f318 := Tryz.func230.trans (congrArg some (by kernel_rfl))
  f319 := Tryz.func239.trans (congrArg some (by kernel_rfl))
  f320 := Tryz.func240.trans (congrArg some (by kernel_rfl))
  f337 := Tryz.func256.trans (congrArg some (by kernel_rfl))
  f338 := Tryz.func257.trans (congrArg some (by kernel_rfl))
  t0 := Tryz.underlying0
  a0 := Tryz.isAgg0
  z0 := Tryz.sizeOf0
  v0 := Tryz.zeroValue0
  t2 := Tryz.underlying2
  a2 := Tryz.isAgg2
  z2 := Tryz.sizeOf2
  v2 := Tryz.zeroValue2
  t3 := Tryz.underlying3
  a3 := Tryz.isAgg3
  z3 := Tryz.sizeOf3
  v3 := Tryz.zeroValue3
  t4 := Tryz.underlying4
  a4 := Tryz.isAgg4
  z4 := Tryz.sizeOf4
  v4 := Tryz.zeroValue4
  t5 := Tryz.underlying5
  a5 := Tryz.isAgg5
  z5 := Tryz.sizeOf5
  v5 := Tryz.zeroValue5
  t9 := Tryz.underlying9
  a9 := Tryz.isAgg9
  z9 := Tryz.sizeOf9
  v9 := Tryz.zeroValue9
  t20 := Tryz.underlying20
  a20 := Tryz.isAgg20
  z20 := Tryz.sizeOf20
  v20 := Tryz.zeroValue20
  t37 := Tryz.underlying195
  a37 := Tryz.isAgg195
  z37 := Tryz.sizeOf195
  v37 := Tryz.zeroValue195
  t46 := Tryz.underlying202
  a46 := Tryz.isAgg202
  z46 := Tryz.sizeOf202
  v46 := Tryz.zeroValue202
  t51 := Tryz.underlying213
  a51 := Tryz.isAgg213
  z51 := Tryz.sizeOf213
  v51 := Tryz.zeroValue213
  t53 := Tryz.underlying212
  a53 := Tryz.isAgg212
  z53 := Tryz.sizeOf212
  v53 := Tryz.zeroValue212
  t171 := Tryz.underlying226
  a171 := Tryz.isAgg226
  z171 := Tryz.sizeOf226
  v171 := Tryz.zeroValue226
  t173 := Tryz.underlying234
  a173 := Tryz.isAgg234
  z173 := Tryz.sizeOf234
  v173 := Tryz.zeroValue234
  t212 := Tryz.underlying264
  a212 := Tryz.isAgg264
  z212 := Tryz.sizeOf264
  v212 := Tryz.zeroValue264
  t213 := Tryz.underlying269
  a213 := Tryz.isAgg269
  z213 := Tryz.sizeOf269
  t232 := Tryz.underlying219
  a232 := Tryz.isAgg219
  z232 := Tryz.sizeOf219
  v232 := Tryz.zeroValue219
  t233 := Tryz.underlying302
  a233 := Tryz.isAgg302
  z233 := Tryz.sizeOf302
  v233 := Tryz.zeroValue302
  g17 := by kernel_rfl
  g18 := by kernel_rfl
  g19 := by kernel_rfl }
open Go.RowKit Go.Sort Go.Lib in
/-- THE ROAD WITHOUT THE TABLE: 0 <= i < 100: NO PREMISE ON THE WORLD, AND THE WORLD IS AS IT WAS: a row that keeps its argument in that range need list no table ('laid = []'). (LAID: no walk: one application.) -/
theorem Tryz.strconv_Itoa_small (i : Nat) (hi : i < 100) (w : World) :
    Calls Tryz.prog 116 #[.int .i64 i] w fun e w' => e = .returned (.string ⟨(Lib.decDigits i).toArray⟩) ∧ w' = w := Any.strconv_Itoa_small Tryz.lays171 i hi w
def Tryz.lays321_ren : Go.Shelf.Ren := ⟨fun | 321 => 221 | n => n, fun | 5 => 5 | n => n, fun | n => n⟩
theorem Tryz.lays321 : Go.Proofs.Lays.n321 Tryz.prog Tryz.lays321_ren := {
  mixed := by kernel_rfl
  f321 := Tryz.func221.trans (congrArg some (by kernel_rfl))
  t5 := Tryz.underlying5
  a5 := Tryz.isAgg5
  z5 := Tryz.sizeOf5
  v5 := Tryz.zeroValue5 }
open Go.RowKit in
/-- internal/strconv.lower: 'c | ('x' - 'X')': the bit 32 set. The world is as it was. (LAID: no walk: one application.) -/
theorem Tryz.internal_strconv_lower (c : Int) (w : World) :
    Calls Tryz.prog 221 #[.int .u8 c] w fun e w' => e = .returned (.int .u8 (bits .or .u8 c 32)) ∧ w' = w := Any.internal_strconv_lower Tryz.lays321 c w
def Tryz.lays190_ren : Go.Shelf.Ren := ⟨fun | 190 => 170 | 125 => 177 | 258 => 176 | 128 => 211 | 129 => 189 | 302 => 202 | 303 => 203 | 304 => 204 | 305 => 205 | 306 => 206 | 307 => 207 | 308 => 208 | 309 => 209 | 310 => 210 | 333 => 241 | 329 => 242 | 330 => 243 | 334 => 244 | 335 => 245 | 336 => 246 | 344 => 258 | n => n, fun | 31 => 29 | 9 => 9 | 3 => 3 | 46 => 202 | 0 => 0 | 51 => 213 | 53 => 212 | 4 => 4 | 183 => 238 | 182 => 237 | 131 => 242 | 5 => 5 | 218 => 271 | 222 => 130 | 228 => 293 | 229 => 223 | n => n, fun | n => n⟩
theorem Tryz.lays190 : Go.Proofs.Lays.n190 Tryz.prog Tryz.lays190_ren := {
  mixed := by kernel_rfl
  f125 := Tryz.func177.trans (congrArg some (by kernel_rfl))
  f128 := Tryz.func211.trans (congrArg some (by kernel_rfl))
  f129 := Tryz.func189.trans (congrArg some (by kernel_rfl))
  f190 := Tryz.func170.trans (congrArg some (by kernel_rfl))
  f258 := Tryz.func176.trans (congrArg some (by kernel_rfl))
  f302 := Tryz.func202.trans (congrArg some (by kernel_rfl))
  f303 := Tryz.func203.trans (congrArg some (by kernel_rfl))
  f304 := Tryz.func204.trans (congrArg some (by kernel_rfl))
  f305 := Tryz.func205.trans (congrArg some (by kernel_rfl))
  f306 := Tryz.func206.trans (congrArg some (by kernel_rfl))
  f307 := Tryz.func207.trans (congrArg some (by kernel_rfl))
  f308 := Tryz.func208.trans (congrArg some (by kernel_rfl))
  f309 := Tryz.func209.trans (congrArg some (by kernel_rfl))
  f310 := Tryz.func210.trans (congrArg some (by kernel_rfl))
  f329 := Tryz.func242.trans (congrArg some (by kernel_rfl))
  f330 := Tryz.func243.trans (congrArg some (by kernel_rfl))
  f333 := Tryz.func241.trans (congrArg some (by kernel_rfl))
  f334 := Tryz.func244.trans (congrArg some (by kernel_rfl))
  f335 := Tryz.func245.trans (congrArg some (by kernel_rfl))
  f336 := Tryz.func246.trans (congrArg some (by kernel_rfl))
  f344 := Tryz.func258.trans (congrArg some (by kernel_rfl))
  t0 := Tryz.underlying0
  a0 := Tryz.isAgg0
  z0 := Tryz.sizeOf0
  v0 := Tryz.zeroValue0
  t3 := Tryz.underlying3
  a3 := Tryz.isAgg3
  z3 := Tryz.sizeOf3
  v3 := Tryz.zeroValue3
  t4 := Tryz.underlying4
  a4 := Tryz.isAgg4
  z4 := Tryz.sizeOf4
  v4 := Tryz.zeroValue4
  t5 := Tryz.underlying5
  a5 := Tryz.isAgg5
  z5 := Tryz.sizeOf5
  v5 := Tryz.zeroValue5
  t9 := Tryz.underlying9
  a9 := Tryz.isAgg9
  z9 := Tryz.sizeOf9
  v9 := Tryz.zeroValue9
  t31 := Tryz.underlying29
  a31 := Tryz.isAgg29
  z31 := Tryz.sizeOf29
  v31 := Tryz.zeroValue29
  t46 := Tryz.underlying202
  a46 := Tryz.isAgg202
  z46 := Tryz.sizeOf202
  v46 := Tryz.zeroValue202
  t51 := Tryz.underlying213
  a51 := Tryz.isAgg213
  z51 := Tryz.sizeOf213
  v51 := Tryz.zeroValue213
  t53 := Tryz.underlying212
  a53 := Tryz.isAgg212
  z53 := Tryz.sizeOf212
  v53 := Tryz.zeroValue212
  t131 := Tryz.underlying242
  a131 := Tryz.isAgg242
  z131 := Tryz.sizeOf242
  v131 := Tryz.zeroValue242
  t182 := Tryz.underlying237
  a182 := Tryz.isAgg237
  z182 := Tryz.sizeOf237
  v182 := Tryz.zeroValue237
  t183 := Tryz.underlying238
  a183 := Tryz.isAgg238
  z183 := Tryz.sizeOf238
  v183 := Tryz.zeroValue238
  t218 := Tryz.underlying271
  a218 := Tryz.isAgg271
  z218 := Tryz.sizeOf271
  v218 := Tryz.zeroValue271
  t222 := Tryz.underlying130
  a222 := Tryz.isAgg130
  z222 := Tryz.sizeOf130
  v222 := Tryz.zeroValue130
  t228 := Tryz.underlying293
  a228 := Tryz.isAgg293
  z228 := Tryz.sizeOf293
  v228 := Tryz.zeroValue293
  t229 := Tryz.underlying223
  a229 := Tryz.isAgg223
  z229 := Tryz.sizeOf223
  v229 := Tryz.zeroValue223 }
open Go.Sort Go.RowKit in
theorem Tryz.slices_Sort_string (blk off cap : Nat) (ss : List (List UInt8)) (w : World) (hH : Holds encStr w blk off ss.toArray) (hblk : blk < w.heap.size) (hsz : ss.length < 4611686018427387904) :
    Calls Tryz.prog 170 #[.slice (some ⟨blk, off, none⟩) ss.length cap] w fun e w' =>
      e = .returned (.tuple #[]) ∧ ∃ n os, w' = grow (putRow encStr (Sort.ahead w n) blk off (ss.mergeSort fun x y => decide (x ≤ y)).toArray) os := Any.slices_Sort_string Tryz.lays190 blk off cap ss w hH hblk hsz
def Tryz.lays207_ren : Go.Shelf.Ren := ⟨fun | 207 => 171 | n => n, fun | 9 => 9 | 4 => 4 | 3 => 3 | n => n, fun | n => n⟩
theorem Tryz.lays207 : Go.Proofs.Lays.n207 Tryz.prog Tryz.lays207_ren := {
  mixed := by kernel_rfl
  f207 := Tryz.func171.trans (congrArg some (by kernel_rfl))
  t3 := Tryz.underlying3
  a3 := Tryz.isAgg3
  z3 := Tryz.sizeOf3
  v3 := Tryz.zeroValue3
  t4 := Tryz.underlying4
  a4 := Tryz.isAgg4
  z4 := Tryz.sizeOf4
  v4 := Tryz.zeroValue4
  t9 := Tryz.underlying9
  a9 := Tryz.isAgg9
  z9 := Tryz.sizeOf9
  v9 := Tryz.zeroValue9 }
open Go.RowKit Go.Lib in
/-- internal/stringslite.HasSuffix (what strings.HasSuffix calls). (LAID: no walk: one application.) -/
theorem Tryz.stringslite_HasSuffix (s p : ByteArray) (w : World) (hs : s.size ≤ 9223372036854775807) :
    Calls Tryz.prog 171 #[.string s, .string p] w fun e w' => e = .returned (.bool (Lib.hasSuffix s.data.toList p.data.toList)) ∧ w' = w := Any.stringslite_HasSuffix Tryz.lays207 s p w hs
def Tryz.lays100_ren : Go.Shelf.Ren := ⟨fun | 100 => 165 | 207 => 171 | n => n, fun | 9 => 9 | 4 => 4 | 3 => 3 | n => n, fun | n => n⟩
theorem Tryz.lays100 : Go.Proofs.Lays.n100 Tryz.prog Tryz.lays100_ren := {
  mixed := by kernel_rfl
  f100 := Tryz.func165.trans (congrArg some (by kernel_rfl))
  f207 := Tryz.func171.trans (congrArg some (by kernel_rfl))
  t3 := Tryz.underlying3
  a3 := Tryz.isAgg3
  z3 := Tryz.sizeOf3
  v3 := Tryz.zeroValue3
  t4 := Tryz.underlying4
  a4 := Tryz.isAgg4
  z4 := Tryz.sizeOf4
  v4 := Tryz.zeroValue4
  t9 := Tryz.underlying9
  a9 := Tryz.isAgg9
  z9 := Tryz.sizeOf9
  v9 := Tryz.zeroValue9 }
open Go.RowKit Go.Lib in
/-- strings.HasSuffix: "HasSuffix reports whether the string s ends with suffix.": IT RETURNS 'Lib.hasSuffix s suffix'; the world is as it was. ('hs': no Go string is longer: a caller has it of every string that it was handed.) (LAID: no walk: one application.) -/
theorem Tryz.strings_HasSuffix (s p : ByteArray) (w : World) (hs : s.size ≤ 9223372036854775807) :
    Calls Tryz.prog 165 #[.string s, .string p] w fun e w' => e = .returned (.bool (Lib.hasSuffix s.data.toList p.data.toList)) ∧ w' = w := Any.strings_HasSuffix Tryz.lays100 s p w hs
def Tryz.lays204_ren : Go.Shelf.Ren := ⟨fun | 204 => 183 | 262 => 218 | 313 => 251 | 274 => 260 | 275 => 261 | n => n, fun | 21 => 21 | 4 => 4 | 3 => 3 | 162 => 281 | 203 => 279 | 160 => 299 | 46 => 202 | 0 => 0 | 208 => 306 | 51 => 213 | 206 => 304 | n => n, fun | 13 => 2 | n => n⟩
theorem Tryz.lays204 : Go.Proofs.Lays.n204 Tryz.prog Tryz.lays204_ren := {
  mixed := by kernel_rfl
  f204 := Tryz.func183.trans (congrArg some (by kernel_rfl))
  f262 := Tryz.func218.trans (congrArg some (by kernel_rfl))
  f274 := Tryz.func260.trans (congrArg some (by kernel_rfl))
  f275 := Tryz.func261.trans (congrArg some (by kernel_rfl))
  f313 := Tryz.func251.trans (congrArg some (by kernel_rfl))
  t0 := Tryz.underlying0
  a0 := Tryz.isAgg0
  z0 := Tryz.sizeOf0
  v0 := Tryz.zeroValue0
  t3 := Tryz.underlying3
  a3 := Tryz.isAgg3
  z3 := Tryz.sizeOf3
  v3 := Tryz.zeroValue3
  t4 := Tryz.underlying4
  a4 := Tryz.isAgg4
  z4 := Tryz.sizeOf4
  v4 := Tryz.zeroValue4
  t21 := Tryz.underlying21
  a21 := Tryz.isAgg21
  z21 := Tryz.sizeOf21
  v21 := Tryz.zeroValue21
  t46 := Tryz.underlying202
  a46 := Tryz.isAgg202
  z46 := Tryz.sizeOf202
  v46 := Tryz.zeroValue202
  t51 := Tryz.underlying213
  a51 := Tryz.isAgg213
  z51 := Tryz.sizeOf213
  v51 := Tryz.zeroValue213
  t160 := Tryz.underlying299
  a160 := Tryz.isAgg299
  z160 := Tryz.sizeOf299
  v160 := Tryz.zeroValue299
  t162 := Tryz.underlying281
  a162 := Tryz.isAgg281
  z162 := Tryz.sizeOf281
  v162 := Tryz.zeroValue281
  t203 := Tryz.underlying279
  a203 := Tryz.isAgg279
  z203 := Tryz.sizeOf279
  v203 := Tryz.zeroValue279
  t206 := Tryz.underlying304
  a206 := Tryz.isAgg304
  z206 := Tryz.sizeOf304
  v206 := Tryz.zeroValue304
  t208 := Tryz.underlying306
  a208 := Tryz.isAgg306
  z208 := Tryz.sizeOf306
  v208 := Tryz.zeroValue306
  g13 := by kernel_rfl }
open Go.RowKit Go.Lib in
theorem Tryz.unicode_ToLower (r : Int) (w : World) (h : r ≤ 127) :
    Calls Tryz.prog 183 #[.int .i32 r] w fun e w' => e = .returned (.int .i32 (Lib.toLowerR r)) ∧ w' = w := Any.unicode_ToLower Tryz.lays204 r w h
def Tryz.lays197_ren : Go.Shelf.Ren := ⟨fun | 197 => 214 | 260 => 249 | n => n, fun | 9 => 9 | 21 => 21 | 3 => 3 | 4 => 4 | 5 => 5 | 105 => 246 | 119 => 295 | 0 => 0 | 46 => 202 | 139 => 298 | 138 => 297 | n => n, fun | 3 => 6 | 4 => 7 | n => n⟩
theorem Tryz.lays197 : Go.Proofs.Lays.n197 Tryz.prog Tryz.lays197_ren := {
  mixed := by kernel_rfl
  f197 := Tryz.func214.trans (congrArg some (by kernel_rfl))
  f260 := Tryz.func249.trans (congrArg some (by kernel_rfl))
  t0 := Tryz.underlying0
  a0 := Tryz.isAgg0
  z0 := Tryz.sizeOf0
  v0 := Tryz.zeroValue0
  t3 := Tryz.underlying3
  a3 := Tryz.isAgg3
  z3 := Tryz.sizeOf3
  v3 := Tryz.zeroValue3
  t4 := Tryz.underlying4
  a4 := Tryz.isAgg4
  z4 := Tryz.sizeOf4
  v4 := Tryz.zeroValue4
  t5 := Tryz.underlying5
  a5 := Tryz.isAgg5
  z5 := Tryz.sizeOf5
  v5 := Tryz.zeroValue5
  t9 := Tryz.underlying9
  a9 := Tryz.isAgg9
  z9 := Tryz.sizeOf9
  v9 := Tryz.zeroValue9
  t21 := Tryz.underlying21
  a21 := Tryz.isAgg21
  z21 := Tryz.sizeOf21
  v21 := Tryz.zeroValue21
  t46 := Tryz.underlying202
  a46 := Tryz.isAgg202
  z46 := Tryz.sizeOf202
  v46 := Tryz.zeroValue202
  t105 := Tryz.underlying246
  a105 := Tryz.isAgg246
  z105 := Tryz.sizeOf246
  v105 := Tryz.zeroValue246
  t119 := Tryz.underlying295
  a119 := Tryz.isAgg295
  z119 := Tryz.sizeOf295
  t138 := Tryz.underlying297
  a138 := Tryz.isAgg297
  z138 := Tryz.sizeOf297
  v138 := Tryz.zeroValue297
  t139 := Tryz.underlying298
  a139 := Tryz.isAgg298
  z139 := Tryz.sizeOf298
  v139 := Tryz.zeroValue298
  g3 := by kernel_rfl
  g4 := by kernel_rfl }
open Go.RowKit Go.Lib in
/-- unicode/utf8.DecodeRuneInString: "DecodeRuneInString is like DecodeRune but its input is a string.": ("DecodeRune unpacks the first UTF-8 encoding in p and returns the rune and its width in bytes."): WHERE s BEGINS WITH AN ASCII BYTE x: (x, 1). (LAID: no walk: one application.) -/
theorem Tryz.utf8_DecodeRuneInString_ascii (s : ByteArray) (x : UInt8) (w : World) (h0 : s.data.toList[0]? = some x) (hx : x.toNat < 128) :
    Calls Tryz.prog 214 #[.string s] w fun e w' => e = .returned (.tuple #[.int .i32 x.toNat, .int .i64 1]) ∧ w' = w := Any.utf8_DecodeRuneInString_ascii Tryz.lays197 s x w h0 hx
def Tryz.lays264_ren : Go.Shelf.Ren := ⟨fun | 264 => 252 | n => n, fun | 53 => 212 | 46 => 202 | n => n, fun | n => n⟩
theorem Tryz.lays264 : Go.Proofs.Lays.n264 Tryz.prog Tryz.lays264_ren := {
  mixed := by kernel_rfl
  f264 := Tryz.func252.trans (congrArg some (by kernel_rfl))
  t46 := Tryz.underlying202
  a46 := Tryz.isAgg202
  z46 := Tryz.sizeOf202
  v46 := Tryz.zeroValue202
  t53 := Tryz.underlying212
  a53 := Tryz.isAgg212
  z53 := Tryz.sizeOf212
  v53 := Tryz.zeroValue212 }
open Go.RowKit Go.Lib in
theorem Tryz.bits_Mul64 (x y : Nat) (hx : x < 18446744073709551616) (hy : y < 18446744073709551616) (w : World) :
    Calls Tryz.prog 252 #[.int .u64 x, .int .u64 y] w fun e w' => e = .returned (.tuple #[.int .u64 ((x * y / 18446744073709551616 : Nat) : Int), .int .u64 ((x * y % 18446744073709551616 : Nat) : Int)]) ∧ w' = w := Any.bits_Mul64 Tryz.lays264 x y hx hy w
def Tryz.lays260_ren : Go.Shelf.Ren := ⟨fun | 260 => 249 | n => n, fun | 9 => 9 | 21 => 21 | 3 => 3 | 4 => 4 | 5 => 5 | 119 => 295 | 0 => 0 | 46 => 202 | 139 => 298 | 138 => 297 | n => n, fun | 3 => 6 | 4 => 7 | n => n⟩
theorem Tryz.lays260 : Go.Proofs.Lays.n260 Tryz.prog Tryz.lays260_ren := {
  mixed := by kernel_rfl
  f260 := Tryz.func249.trans (congrArg some (by kernel_rfl))
  t0 := Tryz.underlying0
  a0 := Tryz.isAgg0
  z0 := Tryz.sizeOf0
  v0 := Tryz.zeroValue0
  t3 := Tryz.underlying3
  a3 := Tryz.isAgg3
  z3 := Tryz.sizeOf3
  v3 := Tryz.zeroValue3
  t4 := Tryz.underlying4
  a4 := Tryz.isAgg4
  z4 := Tryz.sizeOf4
  v4 := Tryz.zeroValue4
  t5 := Tryz.underlying5
  a5 := Tryz.isAgg5
  z5 := Tryz.sizeOf5
  v5 := Tryz.zeroValue5
  t9 := Tryz.underlying9
  a9 := Tryz.isAgg9
  z9 := Tryz.sizeOf9
  v9 := Tryz.zeroValue9
  t21 := Tryz.underlying21
  a21 := Tryz.isAgg21
  z21 := Tryz.sizeOf21
  v21 := Tryz.zeroValue21
  t46 := Tryz.underlying202
  a46 := Tryz.isAgg202
  z46 := Tryz.sizeOf202
  v46 := Tryz.zeroValue202
  t119 := Tryz.underlying295
  a119 := Tryz.isAgg295
  z119 := Tryz.sizeOf295
  t138 := Tryz.underlying297
  a138 := Tryz.isAgg297
  z138 := Tryz.sizeOf297
  v138 := Tryz.zeroValue297
  t139 := Tryz.underlying298
  a139 := Tryz.isAgg298
  z139 := Tryz.sizeOf298
  v139 := Tryz.zeroValue298
  g3 := by kernel_rfl
  g4 := by kernel_rfl }
open Go.RowKit Go.Lib in
theorem Tryz.utf8_decodeRuneInStringSlow (s : ByteArray) (w : World) (hT : Lib.Utf8Tabs 6 7 w) :
    Calls Tryz.prog 249 #[.string s] w fun e w' => e = .returned (.tuple #[.int .i32 (Lib.decodeGo s).1, .int .i64 (Lib.decodeGo s).2]) ∧ Below w.heap.size w w' := Any.utf8_decodeRuneInStringSlow Tryz.lays260 s w hT
open Go.RowKit Go.Lib in
/-- **unicode/utf8.DecodeRuneInString AT EVERY STRING.** (LAID: no walk: one application.) -/
theorem Tryz.utf8_DecodeRuneInString (s : ByteArray) (w : World) (hT : Lib.Utf8Tabs 6 7 w) :
    Calls Tryz.prog 214 #[.string s] w fun e w' => e = .returned (.tuple #[.int .i32 (Lib.decodeGo s).1, .int .i64 (Lib.decodeGo s).2]) ∧ Below w.heap.size w w' := Any.utf8_DecodeRuneInString Tryz.lays197 s w hT
def Tryz.lays274_ren : Go.Shelf.Ren := ⟨fun | 274 => 260 | n => n, fun | 21 => 21 | 162 => 281 | 160 => 299 | 3 => 3 | 4 => 4 | 46 => 202 | 0 => 0 | 208 => 306 | 51 => 213 | 206 => 304 | n => n, fun | n => n⟩
theorem Tryz.lays274 : Go.Proofs.Lays.n274 Tryz.prog Tryz.lays274_ren := {
  mixed := by kernel_rfl
  f274 := Tryz.func260.trans (congrArg some (by kernel_rfl))
  t0 := Tryz.underlying0
  a0 := Tryz.isAgg0
  z0 := Tryz.sizeOf0
  v0 := Tryz.zeroValue0
  t3 := Tryz.underlying3
  a3 := Tryz.isAgg3
  z3 := Tryz.sizeOf3
  v3 := Tryz.zeroValue3
  t4 := Tryz.underlying4
  a4 := Tryz.isAgg4
  z4 := Tryz.sizeOf4
  v4 := Tryz.zeroValue4
  t21 := Tryz.underlying21
  a21 := Tryz.isAgg21
  z21 := Tryz.sizeOf21
  v21 := Tryz.zeroValue21
  t46 := Tryz.underlying202
  a46 := Tryz.isAgg202
  z46 := Tryz.sizeOf202
  v46 := Tryz.zeroValue202
  t51 := Tryz.underlying213
  a51 := Tryz.isAgg213
  z51 := Tryz.sizeOf213
  v51 := Tryz.zeroValue213
  t160 := Tryz.underlying299
  a160 := Tryz.isAgg299
  z160 := Tryz.sizeOf299
  v160 := Tryz.zeroValue299
  t162 := Tryz.underlying281
  a162 := Tryz.isAgg281
  z162 := Tryz.sizeOf281
  v162 := Tryz.zeroValue281
  t208 := Tryz.underlying306
  a208 := Tryz.isAgg306
  z208 := Tryz.sizeOf306
  v208 := Tryz.zeroValue306 }
open Go.RowKit Go.Lib in
theorem Tryz.unicode_lookupCaseRange (T : Array CaseRow) (R oR cap : Nat) (r : Int) (w : World) (hT : CaseTab R oR T w) (hok : CaseOk T) (hn : T.size ≤ 1000000000) :
    Calls Tryz.prog 260 #[.int .i32 r, .slice (some ⟨R, oR, none⟩) T.size cap] w fun e w' =>
      e = .returned (match lookupIdx T r (T.size + 1) 0 T.size with | some i => .pointer (some ⟨R, oR + i * 5, none⟩) | none => .pointer none) ∧ w' = w := Any.unicode_lookupCaseRange Tryz.lays274 T R oR cap r w hT hok hn
def Tryz.lays275_ren : Go.Shelf.Ren := ⟨fun | 275 => 261 | n => n, fun | 3 => 3 | 21 => 21 | 160 => 299 | 0 => 0 | 208 => 306 | 206 => 304 | 4 => 4 | 51 => 213 | n => n, fun | n => n⟩
theorem Tryz.lays275 : Go.Proofs.Lays.n275 Tryz.prog Tryz.lays275_ren := {
  mixed := by kernel_rfl
  f275 := Tryz.func261.trans (congrArg some (by kernel_rfl))
  t0 := Tryz.underlying0
  a0 := Tryz.isAgg0
  z0 := Tryz.sizeOf0
  v0 := Tryz.zeroValue0
  t3 := Tryz.underlying3
  a3 := Tryz.isAgg3
  z3 := Tryz.sizeOf3
  v3 := Tryz.zeroValue3
  t4 := Tryz.underlying4
  a4 := Tryz.isAgg4
  z4 := Tryz.sizeOf4
  v4 := Tryz.zeroValue4
  t21 := Tryz.underlying21
  a21 := Tryz.isAgg21
  z21 := Tryz.sizeOf21
  v21 := Tryz.zeroValue21
  t51 := Tryz.underlying213
  a51 := Tryz.isAgg213
  z51 := Tryz.sizeOf213
  v51 := Tryz.zeroValue213
  t160 := Tryz.underlying299
  a160 := Tryz.isAgg299
  z160 := Tryz.sizeOf299
  v160 := Tryz.zeroValue299
  t206 := Tryz.underlying304
  a206 := Tryz.isAgg304
  z206 := Tryz.sizeOf304
  v206 := Tryz.zeroValue304
  t208 := Tryz.underlying306
  a208 := Tryz.isAgg306
  z208 := Tryz.sizeOf306
  v208 := Tryz.zeroValue306 }
open Go.RowKit Go.Lib in
theorem Tryz.unicode_convertCase (c : Nat) (hc : c < 3) (r : Int) (A o : Nat) (x : CaseRow) (w : World) (hlo : (x.1 : Int) ≤ r) (hhi : r ≤ (x.2.1 : Int)) (hH : x.2.1 < 2147483647) (c0 : w.cell? ⟨A, o, none⟩ = some (.int .u32 x.1)) (cD : w.cell? ⟨A, o + 2 + c, none⟩ = some (.int .i32 (x.delta c))) :
    Calls Tryz.prog 261 #[.int .i64 c, .int .i32 r, .pointer (some ⟨A, o, none⟩)] w fun e w' => e = .returned (.int .i32 (wrap32 (convertR c r x))) ∧ ∃ q, w' = w.drewN q := Any.unicode_convertCase Tryz.lays275 c hc r A o x w hlo hhi hH c0 cD
def Tryz.lays313_ren : Go.Shelf.Ren := ⟨fun | 313 => 251 | 274 => 260 | 275 => 261 | n => n, fun | 3 => 3 | 21 => 21 | 162 => 281 | 4 => 4 | 160 => 299 | 46 => 202 | 0 => 0 | 208 => 306 | 51 => 213 | 206 => 304 | n => n, fun | n => n⟩
theorem Tryz.lays313 : Go.Proofs.Lays.n313 Tryz.prog Tryz.lays313_ren := {
  mixed := by kernel_rfl
  f274 := Tryz.func260.trans (congrArg some (by kernel_rfl))
  f275 := Tryz.func261.trans (congrArg some (by kernel_rfl))
  f313 := Tryz.func251.trans (congrArg some (by kernel_rfl))
  t0 := Tryz.underlying0
  a0 := Tryz.isAgg0
  z0 := Tryz.sizeOf0
  v0 := Tryz.zeroValue0
  t3 := Tryz.underlying3
  a3 := Tryz.isAgg3
  z3 := Tryz.sizeOf3
  v3 := Tryz.zeroValue3
  t4 := Tryz.underlying4
  a4 := Tryz.isAgg4
  z4 := Tryz.sizeOf4
  v4 := Tryz.zeroValue4
  t21 := Tryz.underlying21
  a21 := Tryz.isAgg21
  z21 := Tryz.sizeOf21
  v21 := Tryz.zeroValue21
  t46 := Tryz.underlying202
  a46 := Tryz.isAgg202
  z46 := Tryz.sizeOf202
  v46 := Tryz.zeroValue202
  t51 := Tryz.underlying213
  a51 := Tryz.isAgg213
  z51 := Tryz.sizeOf213
  v51 := Tryz.zeroValue213
  t160 := Tryz.underlying299
  a160 := Tryz.isAgg299
  z160 := Tryz.sizeOf299
  v160 := Tryz.zeroValue299
  t162 := Tryz.underlying281
  a162 := Tryz.isAgg281
  z162 := Tryz.sizeOf281
  v162 := Tryz.zeroValue281
  t206 := Tryz.underlying304
  a206 := Tryz.isAgg304
  z206 := Tryz.sizeOf304
  v206 := Tryz.zeroValue304
  t208 := Tryz.underlying306
  a208 := Tryz.isAgg306
  z208 := Tryz.sizeOf306
  v208 := Tryz.zeroValue306 }
open Go.RowKit Go.Lib in
theorem Tryz.unicode_to (c : Nat) (hc : c < 3) (r : Int) (T : Array CaseRow) (R oR cap : Nat) (w : World) (hT : CaseTab R oR T w) (hok : CaseOk2 T) (hn : T.size ≤ 1000000000) :
    Calls Tryz.prog 251 #[.int .i64 c, .int .i32 r, .slice (some ⟨R, oR, none⟩) T.size cap] w fun e w' => e = .returned (.tuple #[.int .i32 (toW T c r), .bool (lookupIdx T r (T.size + 1) 0 T.size).isSome]) ∧ ∃ q, w' = w.drewN q := Any.unicode_to Tryz.lays313 c hc r T R oR cap w hT hok hn
def Tryz.lays262_ren : Go.Shelf.Ren := ⟨fun | 262 => 218 | 313 => 251 | 274 => 260 | 275 => 261 | n => n, fun | 3 => 3 | 21 => 21 | 162 => 281 | 203 => 279 | 4 => 4 | 160 => 299 | 46 => 202 | 0 => 0 | 208 => 306 | 51 => 213 | 206 => 304 | n => n, fun | 13 => 2 | n => n⟩
theorem Tryz.lays262 : Go.Proofs.Lays.n262 Tryz.prog Tryz.lays262_ren := {
  mixed := by kernel_rfl
  f262 := Tryz.func218.trans (congrArg some (by kernel_rfl))
  f274 := Tryz.func260.trans (congrArg some (by kernel_rfl))
  f275 := Tryz.func261.trans (congrArg some (by kernel_rfl))
  f313 := Tryz.func251.trans (congrArg some (by kernel_rfl))
  t0 := Tryz.underlying0
  a0 := Tryz.isAgg0
  z0 := Tryz.sizeOf0
  v0 := Tryz.zeroValue0
  t3 := Tryz.underlying3
  a3 := Tryz.isAgg3
  z3 := Tryz.sizeOf3
  v3 := Tryz.zeroValue3
  t4 := Tryz.underlying4
  a4 := Tryz.isAgg4
  z4 := Tryz.sizeOf4
  v4 := Tryz.zeroValue4
  t21 := Tryz.underlying21
  a21 := Tryz.isAgg21
  z21 := Tryz.sizeOf21
  v21 := Tryz.zeroValue21
  t46 := Tryz.underlying202
  a46 := Tryz.isAgg202
  z46 := Tryz.sizeOf202
  v46 := Tryz.zeroValue202
  t51 := Tryz.underlying213
  a51 := Tryz.isAgg213
  z51 := Tryz.sizeOf213
  v51 := Tryz.zeroValue213
  t160 := Tryz.underlying299
  a160 := Tryz.isAgg299
  z160 := Tryz.sizeOf299
  v160 := Tryz.zeroValue299
  t162 := Tryz.underlying281
  a162 := Tryz.isAgg281
  z162 := Tryz.sizeOf281
  v162 := Tryz.zeroValue281
  t203 := Tryz.underlying279
  a203 := Tryz.isAgg279
  z203 := Tryz.sizeOf279
  v203 := Tryz.zeroValue279
  t206 := Tryz.underlying304
  a206 := Tryz.isAgg304
  z206 := Tryz.sizeOf304
  v206 := Tryz.zeroValue304
  t208 := Tryz.underlying306
  a208 := Tryz.isAgg306
  z208 := Tryz.sizeOf306
  v208 := Tryz.zeroValue306
  g13 := by kernel_rfl }
open Go.RowKit Go.Lib in
theorem Tryz.unicode_To (c : Nat) (hc : c < 3) (r : Int) (T : Array CaseRow) (w : World) (hV : CaseVar 2 T w) (hok : CaseOk2 T) (hn : T.size ≤ 1000000000) :
    Calls Tryz.prog 218 #[.int .i64 c, .int .i32 r] w fun e w' => e = .returned (.int .i32 (toW T c r)) ∧ ∃ q, w' = w.drewN q := Any.unicode_To Tryz.lays262 c hc r T w hV hok hn
open Go.RowKit Go.Lib in
theorem Tryz.unicode_ToLower_any (r : Int) (T : Array CaseRow) (w : World) (hV : CaseVar 2 T w) (hok : CaseOk2 T) (hn : T.size ≤ 1000000000) :
    Calls Tryz.prog 183 #[.int .i32 r] w fun e w' => e = .returned (.int .i32 (Lib.toLowerW T r)) ∧ ∃ q, w' = w.drewN q := Any.unicode_ToLower_any Tryz.lays204 r T w hV hok hn
open Go.RowKit Go.Lib in
theorem Tryz.unicode_ToLower_laid (r : Int) (w : World) (hV : CaseVar 2 caseA w) :
    Calls Tryz.prog 183 #[.int .i32 r] w fun e w' => e = .returned (.int .i32 (toLowerU r)) ∧ ∃ q, w' = w.drewN q := Any.unicode_ToLower_laid Tryz.lays204 r w hV
def Tryz.lays270_ren : Go.Shelf.Ren := ⟨fun | 270 => 217 | n => n, fun | 70 => 203 | 3 => 3 | 0 => 0 | 72 => 205 | 37 => 195 | 5 => 5 | n => n, fun | n => n⟩
theorem Tryz.lays270 : Go.Proofs.Lays.n270 Tryz.prog Tryz.lays270_ren := {
  mixed := by kernel_rfl
  f270 := Tryz.func217.trans (congrArg some (by kernel_rfl))
  t0 := Tryz.underlying0
  a0 := Tryz.isAgg0
  z0 := Tryz.sizeOf0
  v0 := Tryz.zeroValue0
  t3 := Tryz.underlying3
  a3 := Tryz.isAgg3
  z3 := Tryz.sizeOf3
  v3 := Tryz.zeroValue3
  t37 := Tryz.underlying195
  a37 := Tryz.isAgg195
  z37 := Tryz.sizeOf195
  v37 := Tryz.zeroValue195
  t70 := Tryz.underlying203
  a70 := Tryz.isAgg203
  z70 := Tryz.sizeOf203
  v70 := Tryz.zeroValue203
  t72 := Tryz.underlying205
  a72 := Tryz.isAgg205
  z72 := Tryz.sizeOf205
  v72 := Tryz.zeroValue205 }
open Go.RowKit Go.Lib in
/-- (*strings.Builder).Cap: "Cap returns the capacity of the builder's underlying byte slice." (LAID: no walk: one application.) -/
theorem Tryz.Builder_Cap_cell (b : Nat) (p : Option Addr) (n cap : Nat) (w : World) (c1 : w.cell? ⟨b, 1, none⟩ = some (.slice p n cap)) :
    Calls Tryz.prog 217 #[.pointer (some ⟨b, 0, none⟩)] w fun e w' => e = .returned (.int .i64 cap) ∧ w' = w := Any.Builder_Cap_cell Tryz.lays270 b p n cap w c1
def Tryz.lays230_ren : Go.Shelf.Ren := ⟨fun | 230 => 182 | 197 => 214 | 118 => 215 | 165 => 178 | 166 => 179 | 168 => 216 | 270 => 217 | 167 => 180 | 169 => 181 | 260 => 249 | 240 => 212 | 241 => 213 | 242 => 250 | 276 => 247 | 277 => 248 | 278 => 259 | n => n, fun | 107 => 211 | 9 => 9 | 72 => 205 | 0 => 0 | 4 => 4 | 3 => 3 | 21 => 21 | 105 => 246 | 76 => 207 | 5 => 5 | 75 => 69 | 70 => 203 | 20 => 20 | 37 => 195 | 127 => 245 | 119 => 295 | 46 => 202 | 139 => 298 | 138 => 297 | 164 => 275 | 51 => 213 | 80 => 125 | n => n, fun | 3 => 6 | 4 => 7 | n => n⟩
theorem Tryz.lays230 : Go.Proofs.Lays.n230 Tryz.prog Tryz.lays230_ren := {
  mixed := by kernel_rfl
  f118 := Tryz.func215.trans (congrArg some (by kernel_rfl))
  f165 := Tryz.func178.trans (congrArg some (by kernel_rfl))
  f166 := Tryz.func179.trans (congrArg some (by kernel_rfl))
  f167 := Tryz.func180.trans (congrArg some (by kernel_rfl))
  f168 := Tryz.func216.trans (congrArg some (by kernel_rfl))
  f169 := Tryz.func181.trans (congrArg some (by kernel_rfl))
  f197 := Tryz.func214.trans (congrArg some (by kernel_rfl))
  f230 := Tryz.func182.trans (congrArg some (by kernel_rfl))
  f240 := Tryz.func212.trans (congrArg some (by kernel_rfl))
  f241 := Tryz.func213.trans (congrArg some (by kernel_rfl))
  f242 := Tryz.func250.trans (congrArg some (by kernel_rfl))
  f260 := Tryz.func249.trans (congrArg some (by kernel_rfl))
  f270 := Tryz.func217.trans (congrArg some (by kernel_rfl))
  f276 := Tryz.func247.trans (congrArg some (by kernel_rfl))
  f277 := Tryz.func248.trans (congrArg some (by kernel_rfl))
  f278 := Tryz.func259.trans (congrArg some (by kernel_rfl))
  t0 := Tryz.underlying0
  a0 := Tryz.isAgg0
  z0 := Tryz.sizeOf0
  v0 := Tryz.zeroValue0
  t3 := Tryz.underlying3
  a3 := Tryz.isAgg3
  z3 := Tryz.sizeOf3
  v3 := Tryz.zeroValue3
  t4 := Tryz.underlying4
  a4 := Tryz.isAgg4
  z4 := Tryz.sizeOf4
  v4 := Tryz.zeroValue4
  t5 := Tryz.underlying5
  a5 := Tryz.isAgg5
  z5 := Tryz.sizeOf5
  v5 := Tryz.zeroValue5
  t9 := Tryz.underlying9
  a9 := Tryz.isAgg9
  z9 := Tryz.sizeOf9
  v9 := Tryz.zeroValue9
  t20 := Tryz.underlying20
  a20 := Tryz.isAgg20
  z20 := Tryz.sizeOf20
  v20 := Tryz.zeroValue20
  t21 := Tryz.underlying21
  a21 := Tryz.isAgg21
  z21 := Tryz.sizeOf21
  v21 := Tryz.zeroValue21
  t37 := Tryz.underlying195
  a37 := Tryz.isAgg195
  z37 := Tryz.sizeOf195
  v37 := Tryz.zeroValue195
  t46 := Tryz.underlying202
  a46 := Tryz.isAgg202
  z46 := Tryz.sizeOf202
  v46 := Tryz.zeroValue202
  t51 := Tryz.underlying213
  a51 := Tryz.isAgg213
  z51 := Tryz.sizeOf213
  v51 := Tryz.zeroValue213
  t70 := Tryz.underlying203
  a70 := Tryz.isAgg203
  z70 := Tryz.sizeOf203
  v70 := Tryz.zeroValue203
  t72 := Tryz.underlying205
  a72 := Tryz.isAgg205
  z72 := Tryz.sizeOf205
  v72 := Tryz.zeroValue205
  t75 := Tryz.underlying69
  a75 := Tryz.isAgg69
  z75 := Tryz.sizeOf69
  v75 := Tryz.zeroValue69
  t76 := Tryz.underlying207
  a76 := Tryz.isAgg207
  z76 := Tryz.sizeOf207
  v76 := Tryz.zeroValue207
  t105 := Tryz.underlying246
  a105 := Tryz.isAgg246
  z105 := Tryz.sizeOf246
  v105 := Tryz.zeroValue246
  t107 := Tryz.underlying211
  a107 := Tryz.isAgg211
  z107 := Tryz.sizeOf211
  v107 := Tryz.zeroValue211
  t119 := Tryz.underlying295
  a119 := Tryz.isAgg295
  z119 := Tryz.sizeOf295
  t127 := Tryz.underlying245
  a127 := Tryz.isAgg245
  z127 := Tryz.sizeOf245
  v127 := Tryz.zeroValue245
  t138 := Tryz.underlying297
  a138 := Tryz.isAgg297
  z138 := Tryz.sizeOf297
  v138 := Tryz.zeroValue297
  t139 := Tryz.underlying298
  a139 := Tryz.isAgg298
  z139 := Tryz.sizeOf298
  v139 := Tryz.zeroValue298
  t164 := Tryz.underlying275
  a164 := Tryz.isAgg275
  z164 := Tryz.sizeOf275
  v164 := Tryz.zeroValue275
  g3 := by kernel_rfl
  g4 := by kernel_rfl }
theorem Tryz.Builder_Extra_230 : Builder.Extra Tryz.prog Tryz.lays230_ren := {
  sizeBuilder := by kernel_rfl
  liesBuilder := by kernel_rfl
  t5 := Tryz.underlying5
  a5 := Tryz.isAgg5
  z5 := Tryz.sizeOf5
  v5 := Tryz.zeroValue5
  infoByte := by kernel_rfl
  cellsByte := by kernel_rfl
  sizeByte := by kernel_rfl
  neB5 := by decide }
open Go.RowKit Go.Lib in
theorem Tryz.strings_Map_runes (g : Nat) (lb : Array Value) (eg : ∀ args w, (callFunc g args).run Tryz.prog w = .ok (.enter g args) w) (f : Int → Int) (s : ByteArray) (w : World) (hs : s.size < 35184372088832) (hf : MapAtRunes Tryz.prog g lb f w) (hnn : ∀ x : Nat, x ≤ 1114111 → 0 ≤ f x ∧ f x ≤ 2147483647) (hT : Lib.Utf8Tabs 6 7 w) :
    Calls Tryz.prog 182 #[.func (.func g) #[] lb, .string s] w fun e w' => e = .returned (.string ⟨(Lib.mapD f s.data.toList).toArray⟩) ∧ Below w.heap.size w w' := Any.strings_Map_runes Tryz.lays230 Tryz.Builder_Extra_230 g lb eg f s w hs hf hnn hT
open Go.RowKit Go.Lib in
theorem Tryz.strings_ToLower_beyond (s : ByteArray) (w : World) (hs : s.size < 35184372088832) (hhigh : ∃ (j : Nat) (b : UInt8), s.data.toList[j]? = some b ∧ 128 ≤ b.toNat) (hV : CaseVar 2 caseA w) (hT : Lib.Utf8Tabs 6 7 w) :
    Calls Tryz.prog 172 #[.string s] w fun e w' => e = .returned (.string ⟨(Lib.toLowerD s.data.toList).toArray⟩) ∧ Below w.heap.size w w' := Any.strings_ToLower_beyond Tryz.lays159 Tryz.Builder_Extra_159 s w hs hhigh hV hT
open Go.RowKit Go.Lib in
/-- **strings.ToLower AT EVERY STRING, VALID UTF-8 OR NOT.** (LAID: no walk: one application.) -/
theorem Tryz.strings_ToLower_any (s : ByteArray) (w : World) (hs : s.size < 35184372088832) (hV : CaseVar 2 caseA w) (hT : Lib.Utf8Tabs 6 7 w) :
    Calls Tryz.prog 172 #[.string s] w fun e w' => e = .returned (.string ⟨(Lib.toLowerD s.data.toList).toArray⟩) ∧ Below w.heap.size w w' := Any.strings_ToLower_any Tryz.lays159 Tryz.Builder_Extra_159 s w hs hV hT
open Go.RowKit Go.Lib in
/-- **strings.Map(mapping, s) AT EVERY STRING, AT WHATEVER FUNCTION VALUE: IT MAY DROP RUNES (a negative result); IT MAY GROW THE HEAP.** (LAID: no walk: one application.) -/
theorem Tryz.strings_Map_grows (g : Nat) (lb : Array Value) (eg : ∀ args w, (callFunc g args).run Tryz.prog w = .ok (.enter g args) w) (f : Int → Int) (s : ByteArray) (w : World) (hs : s.size < 35184372088832) (hf : MapGrows Tryz.prog g lb f w) (hnn : ∀ x : Nat, x ≤ 1114111 → -2147483648 ≤ f x ∧ f x ≤ 2147483647) (hT : Lib.Utf8Tabs 6 7 w) :
    Calls Tryz.prog 182 #[.func (.func g) #[] lb, .string s] w fun e w' => e = .returned (.string ⟨(Lib.mapD f s.data.toList).toArray⟩) ∧ Below w.heap.size w w' := Any.strings_Map_grows Tryz.lays230 Tryz.Builder_Extra_230 g lb eg f s w hs hf hnn hT
open Go.RowKit Go.Sort in
/-- .. and plain. (LAID: no walk: one application.) -/
theorem Tryz.slices_Sort_string_none (p : Option Addr) (cap : Nat) (w : World) :
    Calls Tryz.prog 170 #[.slice p 0 cap] w fun e w' => e = .returned (.tuple #[]) ∧ w' = w := Any.slices_Sort_string_none Tryz.lays190 p cap w
end Go.Proofs
