/-
  DERIVED: THE SHELF's CONTRACTS AT THIS DUMP, IN PLAIN WORDS (tools/lay-plain.mjs out of 'TryzShelf.lean', which tools/lay-shelf.mjs wrote): THE SAME DECLARATIONS UNDER THE SAME NAMES: 'import', 'namespace', 'open', 'def', 'theorem' AND NOTHING ELSE: no command of the shelf's: FOR A HAND-IN. Each laying: the table of numbers ('.._ren') and one theorem, a field a fact of the dump's own or the kernel's comparison; each contract: ONE APPLICATION.
-/
import Derived.Shelf.Strings.Builder1
import Derived.Shelf.Strings.Builder2
import Derived.Shelf.Strings.OnBuilder
import Derived.Shelf.Small.Utf8
import Derived.Shelf.Small.Bits
import Derived.Shelf.Strconv.Itoa0
import Derived.Shelf.Strconv.Itoa1
import Derived.Shelf.LaysM
import Derived.Shelf.Strconv.Itoa2
import Derived.Shelf.Strconv.Itoa3
import Derived.Ground.MpProg
import Derived.Shelf.Pu.ParseUintPublic10
import Derived.Shelf.Strings.Prefix
import Derived.Shelf.Unicode.Latin
import Derived.Shelf.Unicode.Decode
import Derived.Shelf.Unicode.DecodeSlow
import Derived.Shelf.Unicode.DecodeAny
import Derived.Shelf.Unicode.CaseLookup
import Derived.Shelf.Unicode.CaseConvert
import Derived.Shelf.Unicode.CaseTo
import Derived.Shelf.Unicode.CaseLaid
import Derived.Test.YtlnbikcfjnloaaaGreatDoorProg
namespace Go.Proofs
open Go.Shelf
def Tryz.lays170_ren : Go.Shelf.Ren := ⟨fun | 170 => 211 | n => n, fun | 70 => 145 | 3 => 3 | 0 => 0 | 72 => 147 | 37 => 56 | 5 => 5 | n => n, fun | n => n⟩
theorem Tryz.lays170 : Go.Proofs.Lays.n170 Tryz.prog Tryz.lays170_ren := {
  mixed := by kernel_rfl
  f170 := Tryz.func211.trans (congrArg some (by kernel_rfl))
  t0 := Tryz.underlying0
  a0 := Tryz.isAgg0
  z0 := Tryz.sizeOf0
  v0 := Tryz.zeroValue0
  t3 := Tryz.underlying3
  a3 := Tryz.isAgg3
  z3 := Tryz.sizeOf3
  v3 := Tryz.zeroValue3
  t37 := Tryz.underlying56
  a37 := Tryz.isAgg56
  z37 := Tryz.sizeOf56
  v37 := Tryz.zeroValue56
  t70 := Tryz.underlying145
  a70 := Tryz.isAgg145
  z70 := Tryz.sizeOf145
  v70 := Tryz.zeroValue145
  t72 := Tryz.underlying147
  a72 := Tryz.isAgg147
  z72 := Tryz.sizeOf147
  v72 := Tryz.zeroValue147 }
open Go.RowKit in
/-- (*strings.Builder).Len: "Len returns the number of accumulated bytes; b.Len() == len(b.String()).": the world is as it was. (LAID: no walk: one application.) -/
theorem Tryz.Builder_Len (B b : Nat) (bs : List Value) (w : World) (h : Lib.IsBuilder 147 5 B b bs w) :
    Calls Tryz.prog 211 #[.pointer (some ⟨b, 0, none⟩)] w fun e w' => e = .returned (.int .i64 bs.length) ∧ w' = w := Any.Builder_Len Tryz.lays170 B b bs w h
def Tryz.lays169_ren : Go.Shelf.Ren := ⟨fun | 169 => 63 | n => n, fun | 70 => 145 | 9 => 9 | 0 => 0 | 72 => 147 | 37 => 56 | 127 => 177 | 3 => 3 | 5 => 5 | n => n, fun | n => n⟩
theorem Tryz.lays169 : Go.Proofs.Lays.n169 Tryz.prog Tryz.lays169_ren := {
  mixed := by kernel_rfl
  f169 := Tryz.func63.trans (congrArg some (by kernel_rfl))
  t0 := Tryz.underlying0
  a0 := Tryz.isAgg0
  z0 := Tryz.sizeOf0
  v0 := Tryz.zeroValue0
  t3 := Tryz.underlying3
  a3 := Tryz.isAgg3
  z3 := Tryz.sizeOf3
  v3 := Tryz.zeroValue3
  t9 := Tryz.underlying9
  a9 := Tryz.isAgg9
  z9 := Tryz.sizeOf9
  v9 := Tryz.zeroValue9
  t37 := Tryz.underlying56
  a37 := Tryz.isAgg56
  z37 := Tryz.sizeOf56
  v37 := Tryz.zeroValue56
  t70 := Tryz.underlying145
  a70 := Tryz.isAgg145
  z70 := Tryz.sizeOf145
  v70 := Tryz.zeroValue145
  t72 := Tryz.underlying147
  a72 := Tryz.isAgg147
  z72 := Tryz.sizeOf147
  v72 := Tryz.zeroValue147
  t127 := Tryz.underlying177
  a127 := Tryz.isAgg177
  z127 := Tryz.sizeOf177
  v127 := Tryz.zeroValue177 }
theorem Tryz.Builder_Extra_169 : Builder.Extra Tryz.prog Tryz.lays169_ren := {
  sizeBuilder := by kernel_rfl
  liesBuilder := by kernel_rfl
  t5 := Tryz.underlying5
  a5 := Tryz.isAgg5
  z5 := Tryz.sizeOf5
  v5 := Tryz.zeroValue5
  infoByte := by kernel_rfl
  cellsByte := by kernel_rfl
  sizeByte := by kernel_rfl
  neB5 := by decide }
open Go.RowKit in
/-- (*strings.Builder).String: "String returns the accumulated string.": OF A BUILDER THAT HOLDS AT LEAST ONE BYTE. ✋ THE MODEL FREEZES THOSE BYTES IN THE BUFFER (unsafe.String): a later write INTO them ends the model's run without an answer; a later append BEHIND them goes on. The statement's order of evaluation is drawn: one draw. (LAID: no walk: one application.) -/
theorem Tryz.Builder_String (B b : Nat) (l : List UInt8) (w : World) (h : Lib.IsBuilder 147 5 B b (Lib.byteCells l) w) (h0 : l ≠ []) :
    Calls Tryz.prog 63 #[.pointer (some ⟨b, 0, none⟩)] w fun e w' => e = .returned (.string ⟨l.toArray⟩) ∧ Below B w w' := Any.Builder_String Tryz.lays169 Tryz.Builder_Extra_169 B b l w h h0
open Go.RowKit in
/-- (*strings.Builder).String OF A BUILDER THAT HOLDS NO BYTE: the empty string. (Its buffer is nil, or a row of which it has taken nothing yet; where that row has NO capacity the model lays one new block for unsafe.SliceData's 'some address'.) One draw. (LAID: no walk: one application.) -/
theorem Tryz.Builder_String_empty (B b : Nat) (w : World) (h : Lib.IsBuilder 147 5 B b [] w) (hBw : B ≤ w.heap.size) :
    Calls Tryz.prog 63 #[.pointer (some ⟨b, 0, none⟩)] w fun e w' => e = .returned (.string ⟨#[]⟩) ∧ Below B w w' := Any.Builder_String_empty Tryz.lays169 Tryz.Builder_Extra_169 B b w h hBw
open Go.RowKit in
/-- (*strings.Builder).String: "String returns the accumulated string.": WHATEVER THE BUILDER HOLDS. (LAID: no walk: one application.) -/
theorem Tryz.Builder_String_any (B b : Nat) (l : List UInt8) (w : World) (h : Lib.IsBuilder 147 5 B b (Lib.byteCells l) w) (hBw : B ≤ w.heap.size) :
    Calls Tryz.prog 63 #[.pointer (some ⟨b, 0, none⟩)] w fun e w' => e = .returned (.string ⟨l.toArray⟩) ∧ Below B w w' := Any.Builder_String_any Tryz.lays169 Tryz.Builder_Extra_169 B b l w h hBw
def Tryz.lays241_ren : Go.Shelf.Ren := ⟨fun | 241 => 88 | 277 => 124 | n => n, fun | 70 => 145 | 3 => 3 | 0 => 0 | 72 => 147 | 37 => 56 | 5 => 5 | n => n, fun | n => n⟩
theorem Tryz.lays241 : Go.Proofs.Lays.n241 Tryz.prog Tryz.lays241_ren := {
  mixed := by kernel_rfl
  f241 := Tryz.func88.trans (congrArg some (by kernel_rfl))
  f277 := Tryz.func124.trans (congrArg some (by kernel_rfl))
  t0 := Tryz.underlying0
  a0 := Tryz.isAgg0
  z0 := Tryz.sizeOf0
  v0 := Tryz.zeroValue0
  t3 := Tryz.underlying3
  a3 := Tryz.isAgg3
  z3 := Tryz.sizeOf3
  v3 := Tryz.zeroValue3
  t37 := Tryz.underlying56
  a37 := Tryz.isAgg56
  z37 := Tryz.sizeOf56
  v37 := Tryz.zeroValue56
  t70 := Tryz.underlying145
  a70 := Tryz.isAgg145
  z70 := Tryz.sizeOf145
  v70 := Tryz.zeroValue145
  t72 := Tryz.underlying147
  a72 := Tryz.isAgg147
  z72 := Tryz.sizeOf147
  v72 := Tryz.zeroValue147 }
theorem Tryz.Builder_Extra_241 : Builder.Extra Tryz.prog Tryz.lays241_ren := {
  sizeBuilder := by kernel_rfl
  liesBuilder := by kernel_rfl
  t5 := Tryz.underlying5
  a5 := Tryz.isAgg5
  z5 := Tryz.sizeOf5
  v5 := Tryz.zeroValue5
  infoByte := by kernel_rfl
  cellsByte := by kernel_rfl
  sizeByte := by kernel_rfl
  neB5 := by decide }
open Go.RowKit in
/-- (*strings.Builder).grow (no doc but "grow copies the buffer to a new, larger buffer so that there are at least n bytes of capacity beyond len(b.buf)."): AT A BUILDER WITHOUT A BUFFER: a new row of whatever bytes for its buffer, none of them its own yet. Three draws. (LAID: no walk: one application.) -/
theorem Tryz.Builder_grow_fresh (B b n : Nat) (w : World) (hB : B ≤ b) (hbk : w.heap[b]? = some (.cells #[.pointer (some ⟨b, 0, none⟩), .slice none 0 0] 147 (0, 0))) (hBw : B ≤ w.heap.size) (hn : n ≤ 281474976710656) :
    Calls Tryz.prog 88 #[.pointer (some ⟨b, 0, none⟩), .int .i64 n] w fun e w' => e = .returned (.tuple #[]) ∧ (Lib.BuilderAt 147 5 B b (.pointer (some ⟨b, 0, none⟩)) [] w' ∧ Below B w w') := Any.Builder_grow_fresh Tryz.lays241 Tryz.Builder_Extra_241 B b n w hB hbk hBw hn
def Tryz.lays165_ren : Go.Shelf.Ren := ⟨fun | 165 => 60 | 240 => 87 | 241 => 88 | 276 => 123 | 277 => 124 | n => n, fun | 70 => 145 | 3 => 3 | 0 => 0 | 4 => 4 | 9 => 9 | 20 => 20 | 72 => 147 | 37 => 56 | 164 => 205 | 5 => 5 | n => n, fun | n => n⟩
theorem Tryz.lays165 : Go.Proofs.Lays.n165 Tryz.prog Tryz.lays165_ren := {
  mixed := by kernel_rfl
  f165 := Tryz.func60.trans (congrArg some (by kernel_rfl))
  f240 := Tryz.func87.trans (congrArg some (by kernel_rfl))
  f241 := Tryz.func88.trans (congrArg some (by kernel_rfl))
  f276 := Tryz.func123.trans (congrArg some (by kernel_rfl))
  f277 := Tryz.func124.trans (congrArg some (by kernel_rfl))
  t0 := Tryz.underlying0
  a0 := Tryz.isAgg0
  z0 := Tryz.sizeOf0
  v0 := Tryz.zeroValue0
  t3 := Tryz.underlying3
  a3 := Tryz.isAgg3
  z3 := Tryz.sizeOf3
  v3 := Tryz.zeroValue3
  t4 := Tryz.underlying4
  a4 := Tryz.isAgg4
  z4 := Tryz.sizeOf4
  v4 := Tryz.zeroValue4
  t9 := Tryz.underlying9
  a9 := Tryz.isAgg9
  z9 := Tryz.sizeOf9
  v9 := Tryz.zeroValue9
  t20 := Tryz.underlying20
  a20 := Tryz.isAgg20
  z20 := Tryz.sizeOf20
  v20 := Tryz.zeroValue20
  t37 := Tryz.underlying56
  a37 := Tryz.isAgg56
  z37 := Tryz.sizeOf56
  v37 := Tryz.zeroValue56
  t70 := Tryz.underlying145
  a70 := Tryz.isAgg145
  z70 := Tryz.sizeOf145
  v70 := Tryz.zeroValue145
  t72 := Tryz.underlying147
  a72 := Tryz.isAgg147
  z72 := Tryz.sizeOf147
  v72 := Tryz.zeroValue147
  t164 := Tryz.underlying205
  a164 := Tryz.isAgg205
  z164 := Tryz.sizeOf205
  v164 := Tryz.zeroValue205 }
theorem Tryz.Builder_Extra_165 : Builder.Extra Tryz.prog Tryz.lays165_ren := {
  sizeBuilder := by kernel_rfl
  liesBuilder := by kernel_rfl
  t5 := Tryz.underlying5
  a5 := Tryz.isAgg5
  z5 := Tryz.sizeOf5
  v5 := Tryz.zeroValue5
  infoByte := by kernel_rfl
  cellsByte := by kernel_rfl
  sizeByte := by kernel_rfl
  neB5 := by decide }
open Go.RowKit in
/-- (*strings.Builder).Grow AT A BUILDER THAT HAS NOT BEEN WRITTEN ('var b strings.Builder; b.Grow(n)'): "Grow grows b's capacity, if necessary, to guarantee space for another n bytes.": it holds no byte behind it as before it. (LAID: no walk: one application.) -/
theorem Tryz.Builder_Grow_fresh (B b n : Nat) (w : World) (hB : B ≤ b) (hbk : w.heap[b]? = some (.cells #[.pointer none, .slice none 0 0] 147 (0, 0))) (hBw : B ≤ w.heap.size) (hn : n ≤ 281474976710656) :
    Calls Tryz.prog 60 #[.pointer (some ⟨b, 0, none⟩), .int .i64 n] w fun e w' => e = .returned (.tuple #[]) ∧ (Lib.BuilderAt 147 5 B b (.pointer (some ⟨b, 0, none⟩)) [] w' ∧ Below B w w') := Any.Builder_Grow_fresh Tryz.lays165 Tryz.Builder_Extra_165 B b n w hB hbk hBw hn
def Tryz.lays158_ren : Go.Shelf.Ren := ⟨fun | 158 => 37 | 165 => 60 | 166 => 61 | 167 => 62 | 169 => 63 | 230 => 64 | 203 => 65 | 240 => 87 | 241 => 88 | 197 => 89 | 118 => 90 | 168 => 91 | 270 => 92 | 262 => 93 | 276 => 123 | 277 => 124 | 260 => 125 | 242 => 86 | 313 => 126 | 278 => 122 | 274 => 127 | 275 => 128 | n => n, fun | 9 => 9 | 4 => 4 | 3 => 3 | 5 => 5 | 72 => 147 | 0 => 0 | 76 => 129 | 75 => 40 | 107 => 152 | 70 => 145 | 20 => 20 | 37 => 56 | 127 => 177 | 21 => 21 | 105 => 178 | 164 => 205 | 162 => 210 | 203 => 208 | 119 => 233 | 46 => 164 | 139 => 236 | 138 => 235 | 51 => 25 | 160 => 215 | 208 => 240 | 206 => 238 | 80 => 128 | n => n, fun | 13 => 5 | 3 => 11 | 4 => 12 | n => n⟩
theorem Tryz.lays158 : Go.Proofs.Lays.n158 Tryz.prog Tryz.lays158_ren := {
  mixed := by kernel_rfl
  f118 := Tryz.func90.trans (congrArg some (by kernel_rfl))
  f158 := Tryz.func37.trans (congrArg some (by kernel_rfl))
  f165 := Tryz.func60.trans (congrArg some (by kernel_rfl))
  f166 := Tryz.func61.trans (congrArg some (by kernel_rfl))
  f167 := Tryz.func62.trans (congrArg some (by kernel_rfl))
  f168 := Tryz.func91.trans (congrArg some (by kernel_rfl))
  f169 := Tryz.func63.trans (congrArg some (by kernel_rfl))
  f197 := Tryz.func89.trans (congrArg some (by kernel_rfl))
  f203 := Tryz.func65.trans (congrArg some (by kernel_rfl))
  f230 := Tryz.func64.trans (congrArg some (by kernel_rfl))
  f240 := Tryz.func87.trans (congrArg some (by kernel_rfl))
  f241 := Tryz.func88.trans (congrArg some (by kernel_rfl))
  f242 := Tryz.func86.trans (congrArg some (by kernel_rfl))
  f260 := Tryz.func125.trans (congrArg some (by kernel_rfl))
  f262 := Tryz.func93.trans (congrArg some (by kernel_rfl))
  f270 := Tryz.func92.trans (congrArg some (by kernel_rfl))
  f274 := Tryz.func127.trans (congrArg some (by kernel_rfl))
  f275 := Tryz.func128.trans (congrArg some (by kernel_rfl))
  f276 := Tryz.func123.trans (congrArg some (by kernel_rfl))
  f277 := Tryz.func124.trans (congrArg some (by kernel_rfl))
  f278 := Tryz.func122.trans (congrArg some (by kernel_rfl))
  f313 := Tryz.func126.trans (congrArg some (by kernel_rfl))
  t0 := Tryz.underlying0
  a0 := Tryz.isAgg0
  z0 := Tryz.sizeOf0
  v0 := Tryz.zeroValue0
  t3 := Tryz.underlying3
  a3 := Tryz.isAgg3
  z3 := Tryz.sizeOf3
  v3 := Tryz.zeroValue3
  t4 := Tryz.underlying4
  a4 := Tryz.isAgg4
  z4 := Tryz.sizeOf4
  v4 := Tryz.zeroValue4
  t5 := Tryz.underlying5
  a5 := Tryz.isAgg5
  z5 := Tryz.sizeOf5
  v5 := Tryz.zeroValue5
  t9 := Tryz.underlying9
  a9 := Tryz.isAgg9
  z9 := Tryz.sizeOf9
  v9 := Tryz.zeroValue9
  t20 := Tryz.underlying20
  a20 := Tryz.isAgg20
  z20 := Tryz.sizeOf20
  v20 := Tryz.zeroValue20
  t21 := Tryz.underlying21
  a21 := Tryz.isAgg21
  z21 := Tryz.sizeOf21
  v21 := Tryz.zeroValue21
  t37 := Tryz.underlying56
  a37 := Tryz.isAgg56
  z37 := Tryz.sizeOf56
  v37 := Tryz.zeroValue56
  t46 := Tryz.underlying164
  a46 := Tryz.isAgg164
  z46 := Tryz.sizeOf164
  v46 := Tryz.zeroValue164
  t51 := Tryz.underlying25
  a51 := Tryz.isAgg25
  z51 := Tryz.sizeOf25
  v51 := Tryz.zeroValue25
  t70 := Tryz.underlying145
  a70 := Tryz.isAgg145
  z70 := Tryz.sizeOf145
  v70 := Tryz.zeroValue145
  t72 := Tryz.underlying147
  a72 := Tryz.isAgg147
  z72 := Tryz.sizeOf147
  v72 := Tryz.zeroValue147
  t75 := Tryz.underlying40
  a75 := Tryz.isAgg40
  z75 := Tryz.sizeOf40
  v75 := Tryz.zeroValue40
  t76 := Tryz.underlying129
  a76 := Tryz.isAgg129
  z76 := Tryz.sizeOf129
  v76 := Tryz.zeroValue129
  t105 := Tryz.underlying178
  a105 := Tryz.isAgg178
  z105 := Tryz.sizeOf178
  v105 := Tryz.zeroValue178
  t107 := Tryz.underlying152
  a107 := Tryz.isAgg152
  z107 := Tryz.sizeOf152
  v107 := Tryz.zeroValue152
  t119 := Tryz.underlying233
  a119 := Tryz.isAgg233
  z119 := Tryz.sizeOf233
  t127 := Tryz.underlying177
  a127 := Tryz.isAgg177
  z127 := Tryz.sizeOf177
  v127 := Tryz.zeroValue177
  t138 := Tryz.underlying235
  a138 := Tryz.isAgg235
  z138 := Tryz.sizeOf235
  v138 := Tryz.zeroValue235
  t139 := Tryz.underlying236
  a139 := Tryz.isAgg236
  z139 := Tryz.sizeOf236
  v139 := Tryz.zeroValue236
  t160 := Tryz.underlying215
  a160 := Tryz.isAgg215
  z160 := Tryz.sizeOf215
  v160 := Tryz.zeroValue215
  t162 := Tryz.underlying210
  a162 := Tryz.isAgg210
  z162 := Tryz.sizeOf210
  v162 := Tryz.zeroValue210
  t164 := Tryz.underlying205
  a164 := Tryz.isAgg205
  z164 := Tryz.sizeOf205
  v164 := Tryz.zeroValue205
  t203 := Tryz.underlying208
  a203 := Tryz.isAgg208
  z203 := Tryz.sizeOf208
  v203 := Tryz.zeroValue208
  t206 := Tryz.underlying238
  a206 := Tryz.isAgg238
  z206 := Tryz.sizeOf238
  v206 := Tryz.zeroValue238
  t208 := Tryz.underlying240
  a208 := Tryz.isAgg240
  z208 := Tryz.sizeOf240
  v208 := Tryz.zeroValue240
  g3 := by kernel_rfl
  g4 := by kernel_rfl
  g13 := by kernel_rfl }
theorem Tryz.Builder_Extra_158 : Builder.Extra Tryz.prog Tryz.lays158_ren := {
  sizeBuilder := by kernel_rfl
  liesBuilder := by kernel_rfl
  t5 := Tryz.underlying5
  a5 := Tryz.isAgg5
  z5 := Tryz.sizeOf5
  v5 := Tryz.zeroValue5
  infoByte := by kernel_rfl
  cellsByte := by kernel_rfl
  sizeByte := by kernel_rfl
  neB5 := by decide }
open Go.RowKit in
/-- strings.ToUpper: "ToUpper returns s with all Unicode letters mapped to their upper case.": ON ASCII TEXT OF AT MOST 2^47 BYTES. Below the heap's end the world is as it was: where a letter turns, the call makes a builder and its buffer. (LAID: no walk: one application.) -/
theorem Tryz.strings_ToUpper_ascii (s : ByteArray) (w : World) (hs : s.size ≤ 140737488355328) (hascii : ∀ (j : Nat) (b : UInt8), s.data.toList[j]? = some b → b.toNat < 128) :
    Calls Tryz.prog 37 #[.string s] w fun e w' => e = .returned (.string ⟨(Lib.toUpperA s.data.toList).toArray⟩) ∧ Below w.heap.size w w' := Any.strings_ToUpper_ascii Tryz.lays158 Tryz.Builder_Extra_158 s w hs hascii
def Tryz.lays159_ren : Go.Shelf.Ren := ⟨fun | 159 => 67 | 165 => 60 | 166 => 61 | 167 => 62 | 169 => 63 | 230 => 64 | 204 => 95 | 240 => 87 | 241 => 88 | 197 => 89 | 118 => 90 | 168 => 91 | 270 => 92 | 262 => 93 | 276 => 123 | 277 => 124 | 260 => 125 | 242 => 86 | 313 => 126 | 278 => 122 | 274 => 127 | 275 => 128 | n => n, fun | 9 => 9 | 4 => 4 | 3 => 3 | 5 => 5 | 72 => 147 | 0 => 0 | 76 => 129 | 75 => 40 | 107 => 152 | 70 => 145 | 20 => 20 | 37 => 56 | 127 => 177 | 21 => 21 | 105 => 178 | 164 => 205 | 162 => 210 | 203 => 208 | 119 => 233 | 46 => 164 | 139 => 236 | 138 => 235 | 51 => 25 | 160 => 215 | 208 => 240 | 206 => 238 | 80 => 128 | n => n, fun | 13 => 5 | 3 => 11 | 4 => 12 | n => n⟩
theorem Tryz.lays159 : Go.Proofs.Lays.n159 Tryz.prog Tryz.lays159_ren := {
  mixed := by kernel_rfl
  f118 := Tryz.func90.trans (congrArg some (by kernel_rfl))
  f159 := Tryz.func67.trans (congrArg some (by kernel_rfl))
  f165 := Tryz.func60.trans (congrArg some (by kernel_rfl))
  f166 := Tryz.func61.trans (congrArg some (by kernel_rfl))
  f167 := Tryz.func62.trans (congrArg some (by kernel_rfl))
  f168 := Tryz.func91.trans (congrArg some (by kernel_rfl))
  f169 := Tryz.func63.trans (congrArg some (by kernel_rfl))
  f197 := Tryz.func89.trans (congrArg some (by kernel_rfl))
  f204 := Tryz.func95.trans (congrArg some (by kernel_rfl))
  f230 := Tryz.func64.trans (congrArg some (by kernel_rfl))
  f240 := Tryz.func87.trans (congrArg some (by kernel_rfl))
  f241 := Tryz.func88.trans (congrArg some (by kernel_rfl))
  f242 := Tryz.func86.trans (congrArg some (by kernel_rfl))
  f260 := Tryz.func125.trans (congrArg some (by kernel_rfl))
  f262 := Tryz.func93.trans (congrArg some (by kernel_rfl))
  f270 := Tryz.func92.trans (congrArg some (by kernel_rfl))
  f274 := Tryz.func127.trans (congrArg some (by kernel_rfl))
  f275 := Tryz.func128.trans (congrArg some (by kernel_rfl))
  f276 := Tryz.func123.trans (congrArg some (by kernel_rfl))
  f277 := Tryz.func124.trans (congrArg some (by kernel_rfl))
  f278 := Tryz.func122.trans (congrArg some (by kernel_rfl))
  f313 := Tryz.func126.trans (congrArg some (by kernel_rfl))
  t0 := Tryz.underlying0
  a0 := Tryz.isAgg0
  z0 := Tryz.sizeOf0
  v0 := Tryz.zeroValue0
  t3 := Tryz.underlying3
  a3 := Tryz.isAgg3
  z3 := Tryz.sizeOf3
  v3 := Tryz.zeroValue3
  t4 := Tryz.underlying4
  a4 := Tryz.isAgg4
  z4 := Tryz.sizeOf4
  v4 := Tryz.zeroValue4
  t5 := Tryz.underlying5
  a5 := Tryz.isAgg5
  z5 := Tryz.sizeOf5
  v5 := Tryz.zeroValue5
  t9 := Tryz.underlying9
  a9 := Tryz.isAgg9
  z9 := Tryz.sizeOf9
  v9 := Tryz.zeroValue9
  t20 := Tryz.underlying20
  a20 := Tryz.isAgg20
  z20 := Tryz.sizeOf20
  v20 := Tryz.zeroValue20
  t21 := Tryz.underlying21
  a21 := Tryz.isAgg21
  z21 := Tryz.sizeOf21
  v21 := Tryz.zeroValue21
  t37 := Tryz.underlying56
  a37 := Tryz.isAgg56
  z37 := Tryz.sizeOf56
  v37 := Tryz.zeroValue56
  t46 := Tryz.underlying164
  a46 := Tryz.isAgg164
  z46 := Tryz.sizeOf164
  v46 := Tryz.zeroValue164
  t51 := Tryz.underlying25
  a51 := Tryz.isAgg25
  z51 := Tryz.sizeOf25
  v51 := Tryz.zeroValue25
  t70 := Tryz.underlying145
  a70 := Tryz.isAgg145
  z70 := Tryz.sizeOf145
  v70 := Tryz.zeroValue145
  t72 := Tryz.underlying147
  a72 := Tryz.isAgg147
  z72 := Tryz.sizeOf147
  v72 := Tryz.zeroValue147
  t75 := Tryz.underlying40
  a75 := Tryz.isAgg40
  z75 := Tryz.sizeOf40
  v75 := Tryz.zeroValue40
  t76 := Tryz.underlying129
  a76 := Tryz.isAgg129
  z76 := Tryz.sizeOf129
  v76 := Tryz.zeroValue129
  t105 := Tryz.underlying178
  a105 := Tryz.isAgg178
  z105 := Tryz.sizeOf178
  v105 := Tryz.zeroValue178
  t107 := Tryz.underlying152
  a107 := Tryz.isAgg152
  z107 := Tryz.sizeOf152
  v107 := Tryz.zeroValue152
  t119 := Tryz.underlying233
  a119 := Tryz.isAgg233
  z119 := Tryz.sizeOf233
  t127 := Tryz.underlying177
  a127 := Tryz.isAgg177
  z127 := Tryz.sizeOf177
  v127 := Tryz.zeroValue177
  t138 := Tryz.underlying235
  a138 := Tryz.isAgg235
  z138 := Tryz.sizeOf235
  v138 := Tryz.zeroValue235
  t139 := Tryz.underlying236
  a139 := Tryz.isAgg236
  z139 := Tryz.sizeOf236
  v139 := Tryz.zeroValue236
  t160 := Tryz.underlying215
  a160 := Tryz.isAgg215
  z160 := Tryz.sizeOf215
  v160 := Tryz.zeroValue215
  t162 := Tryz.underlying210
  a162 := Tryz.isAgg210
  z162 := Tryz.sizeOf210
  v162 := Tryz.zeroValue210
  t164 := Tryz.underlying205
  a164 := Tryz.isAgg205
  z164 := Tryz.sizeOf205
  v164 := Tryz.zeroValue205
  t203 := Tryz.underlying208
  a203 := Tryz.isAgg208
  z203 := Tryz.sizeOf208
  v203 := Tryz.zeroValue208
  t206 := Tryz.underlying238
  a206 := Tryz.isAgg238
  z206 := Tryz.sizeOf238
  v206 := Tryz.zeroValue238
  t208 := Tryz.underlying240
  a208 := Tryz.isAgg240
  z208 := Tryz.sizeOf240
  v208 := Tryz.zeroValue240
  g3 := by kernel_rfl
  g4 := by kernel_rfl
  g13 := by kernel_rfl }
theorem Tryz.Builder_Extra_159 : Builder.Extra Tryz.prog Tryz.lays159_ren := {
  sizeBuilder := by kernel_rfl
  liesBuilder := by kernel_rfl
  t5 := Tryz.underlying5
  a5 := Tryz.isAgg5
  z5 := Tryz.sizeOf5
  v5 := Tryz.zeroValue5
  infoByte := by kernel_rfl
  cellsByte := by kernel_rfl
  sizeByte := by kernel_rfl
  neB5 := by decide }
open Go.RowKit in
/-- strings.ToLower: "ToLower returns s with all Unicode letters mapped to their lower case.": ON ASCII TEXT OF AT MOST 2^47 BYTES. Below the heap's end the world is as it was: where a letter turns, the call makes a builder and its buffer. (LAID: no walk: one application.) -/
theorem Tryz.strings_ToLower_ascii (s : ByteArray) (w : World) (hs : s.size ≤ 140737488355328) (hascii : ∀ (j : Nat) (b : UInt8), s.data.toList[j]? = some b → b.toNat < 128) :
    Calls Tryz.prog 67 #[.string s] w fun e w' => e = .returned (.string ⟨(Lib.toLowerA s.data.toList).toArray⟩) ∧ Below w.heap.size w w' := Any.strings_ToLower_ascii Tryz.lays159 Tryz.Builder_Extra_159 s w hs hascii
def Tryz.lays118_ren : Go.Shelf.Ren := ⟨fun | 118 => 90 | n => n, fun | 21 => 21 | 3 => 3 | 4 => 4 | n => n, fun | n => n⟩
theorem Tryz.lays118 : Go.Proofs.Lays.n118 Tryz.prog Tryz.lays118_ren := {
  mixed := by kernel_rfl
  f118 := Tryz.func90.trans (congrArg some (by kernel_rfl))
  t3 := Tryz.underlying3
  a3 := Tryz.isAgg3
  z3 := Tryz.sizeOf3
  v3 := Tryz.zeroValue3
  t4 := Tryz.underlying4
  a4 := Tryz.isAgg4
  z4 := Tryz.sizeOf4
  v4 := Tryz.zeroValue4
  t21 := Tryz.underlying21
  a21 := Tryz.isAgg21
  z21 := Tryz.sizeOf21
  v21 := Tryz.zeroValue21 }
/-- utf8.RuneLen: "RuneLen returns the number of bytes in the UTF-8 encoding of the rune. It returns -1 if the rune is not a valid value to encode in UTF-8.": IT RETURNS 'Lib.runeLen r'; the world is as it was. (LAID: no walk: one application.) -/
theorem Tryz.utf8_RuneLen (r : Int) (w : World) :
    Calls Tryz.prog 90 #[.int .i32 r] w fun e w' => e = .returned (.int .i64 (Lib.runeLen r)) ∧ w' = w := Any.utf8_RuneLen Tryz.lays118 r w
def Tryz.lays119_ren : Go.Shelf.Ren := ⟨fun | 119 => 221 | n => n, fun | 21 => 21 | 4 => 4 | n => n, fun | n => n⟩
theorem Tryz.lays119 : Go.Proofs.Lays.n119 Tryz.prog Tryz.lays119_ren := {
  mixed := by kernel_rfl
  f119 := Tryz.func221.trans (congrArg some (by kernel_rfl))
  t4 := Tryz.underlying4
  a4 := Tryz.isAgg4
  z4 := Tryz.sizeOf4
  v4 := Tryz.zeroValue4
  t21 := Tryz.underlying21
  a21 := Tryz.isAgg21
  z21 := Tryz.sizeOf21
  v21 := Tryz.zeroValue21 }
/-- utf8.ValidRune: "ValidRune reports whether r can be legally encoded as UTF-8. Code points that are out of range or a surrogate half are illegal.": IT RETURNS 'Lib.validRune r'; the world is as it was. (LAID: no walk: one application.) -/
theorem Tryz.utf8_ValidRune (r : Int) (w : World) :
    Calls Tryz.prog 221 #[.int .i32 r] w fun e w' => e = .returned (.bool (Lib.validRune r)) ∧ w' = w := Any.utf8_ValidRune Tryz.lays119 r w
def Tryz.lays128_ren : Go.Shelf.Ren := ⟨fun | 128 => 111 | n => n, fun | 51 => 25 | 3 => 3 | 4 => 4 | 46 => 164 | 5 => 5 | 9 => 9 | n => n, fun | n => n⟩
theorem Tryz.lays128 : Go.Proofs.Lays.n128 Tryz.prog Tryz.lays128_ren := {
  mixed := by kernel_rfl
  f128 := Tryz.func111.trans (congrArg some (by kernel_rfl))
  t3 := Tryz.underlying3
  a3 := Tryz.isAgg3
  z3 := Tryz.sizeOf3
  v3 := Tryz.zeroValue3
  t4 := Tryz.underlying4
  a4 := Tryz.isAgg4
  z4 := Tryz.sizeOf4
  v4 := Tryz.zeroValue4
  t5 := Tryz.underlying5
  a5 := Tryz.isAgg5
  z5 := Tryz.sizeOf5
  v5 := Tryz.zeroValue5
  t9 := Tryz.underlying9
  a9 := Tryz.isAgg9
  z9 := Tryz.sizeOf9
  v9 := Tryz.zeroValue9
  t46 := Tryz.underlying164
  a46 := Tryz.isAgg164
  z46 := Tryz.sizeOf164
  v46 := Tryz.zeroValue164
  t51 := Tryz.underlying25
  a51 := Tryz.isAgg25
  z51 := Tryz.sizeOf25
  v51 := Tryz.zeroValue25 }
/-- bits.Len32: "Len32 returns the minimum number of bits required to represent x; the result is 0 for x == 0.": IT RETURNS 'Lib.bitLen x'; the world is as it was. ('h0', 'h1': x is a uint32.) (LAID: no walk: one application.) -/
theorem Tryz.bits_Len32 (x : Int) (w : World) (h0 : 0 ≤ x) (h1 : x ≤ 4294967295) :
    Calls Tryz.prog 111 #[.int .u32 x] w fun e w' => e = .returned (.int .i64 (Lib.bitLen x.toNat)) ∧ w' = w := Any.bits_Len32 Tryz.lays128 x w h0 h1
def Tryz.lays125_ren : Go.Shelf.Ren := ⟨fun | 125 => 76 | 128 => 111 | 129 => 112 | n => n, fun | 46 => 164 | 3 => 3 | 51 => 25 | 53 => 125 | 4 => 4 | 5 => 5 | 9 => 9 | n => n, fun | n => n⟩
theorem Tryz.lays125 : Go.Proofs.Lays.n125 Tryz.prog Tryz.lays125_ren := {
  mixed := by kernel_rfl
  f125 := Tryz.func76.trans (congrArg some (by kernel_rfl))
  f128 := Tryz.func111.trans (congrArg some (by kernel_rfl))
  f129 := Tryz.func112.trans (congrArg some (by kernel_rfl))
  t3 := Tryz.underlying3
  a3 := Tryz.isAgg3
  z3 := Tryz.sizeOf3
  v3 := Tryz.zeroValue3
  t4 := Tryz.underlying4
  a4 := Tryz.isAgg4
  z4 := Tryz.sizeOf4
  v4 := Tryz.zeroValue4
  t5 := Tryz.underlying5
  a5 := Tryz.isAgg5
  z5 := Tryz.sizeOf5
  v5 := Tryz.zeroValue5
  t9 := Tryz.underlying9
  a9 := Tryz.isAgg9
  z9 := Tryz.sizeOf9
  v9 := Tryz.zeroValue9
  t46 := Tryz.underlying164
  a46 := Tryz.isAgg164
  z46 := Tryz.sizeOf164
  v46 := Tryz.zeroValue164
  t51 := Tryz.underlying25
  a51 := Tryz.isAgg25
  z51 := Tryz.sizeOf25
  v51 := Tryz.zeroValue25
  t53 := Tryz.underlying125
  a53 := Tryz.isAgg125
  z53 := Tryz.sizeOf125
  v53 := Tryz.zeroValue125 }
/-- bits.Len: "Len returns the minimum number of bits required to represent x; the result is 0 for x == 0.": IT RETURNS 'Lib.bitLen x'; the world is as it was. (A uint has 64 bits in the model.) ITS CALLEE bits.Len64 IS MET BY ITS OWN CONTRACT OFF THE SHELF (lay that first). (LAID: no walk: one application.) -/
theorem Tryz.bits_Len (x : Int) (w : World) (h0 : 0 ≤ x) (h1 : x ≤ 18446744073709551615) :
    Calls Tryz.prog 76 #[.int .u64 x] w fun e w' => e = .returned (.int .i64 (Lib.bitLen x.toNat)) ∧ w' = w := Any.bits_Len Tryz.lays125 x w h0 h1
def Tryz.lays129_ren : Go.Shelf.Ren := ⟨fun | 129 => 112 | n => n, fun | 53 => 125 | 3 => 3 | 4 => 4 | 46 => 164 | 5 => 5 | 9 => 9 | n => n, fun | n => n⟩
theorem Tryz.lays129 : Go.Proofs.Lays.n129 Tryz.prog Tryz.lays129_ren := {
  mixed := by kernel_rfl
  f129 := Tryz.func112.trans (congrArg some (by kernel_rfl))
  t3 := Tryz.underlying3
  a3 := Tryz.isAgg3
  z3 := Tryz.sizeOf3
  v3 := Tryz.zeroValue3
  t4 := Tryz.underlying4
  a4 := Tryz.isAgg4
  z4 := Tryz.sizeOf4
  v4 := Tryz.zeroValue4
  t5 := Tryz.underlying5
  a5 := Tryz.isAgg5
  z5 := Tryz.sizeOf5
  v5 := Tryz.zeroValue5
  t9 := Tryz.underlying9
  a9 := Tryz.isAgg9
  z9 := Tryz.sizeOf9
  v9 := Tryz.zeroValue9
  t46 := Tryz.underlying164
  a46 := Tryz.isAgg164
  z46 := Tryz.sizeOf164
  v46 := Tryz.zeroValue164
  t53 := Tryz.underlying125
  a53 := Tryz.isAgg125
  z53 := Tryz.sizeOf125
  v53 := Tryz.zeroValue125 }
/-- bits.Len64: "Len64 returns the minimum number of bits required to represent x; the result is 0 for x == 0.": IT RETURNS 'Lib.bitLen x'; the world is as it was. ('h0', 'h1': x is a uint64.) (LAID: no walk: one application.) -/
theorem Tryz.bits_Len64 (x : Int) (w : World) (h0 : 0 ≤ x) (h1 : x ≤ 18446744073709551615) :
    Calls Tryz.prog 112 #[.int .u64 x] w fun e w' => e = .returned (.int .i64 (Lib.bitLen x.toNat)) ∧ w' = w := Any.bits_Len64 Tryz.lays129 x w h0 h1
def Tryz.lays317_ren : Go.Shelf.Ren := ⟨fun | 317 => 152 | n => n, fun | 3 => 3 | 46 => 164 | n => n, fun | n => n⟩
theorem Tryz.lays317 : Go.Proofs.Lays.n317 Tryz.prog Tryz.lays317_ren := {
  mixed := by kernel_rfl
  f317 := Tryz.func152.trans (congrArg some (by kernel_rfl))
  t3 := Tryz.underlying3
  a3 := Tryz.isAgg3
  z3 := Tryz.sizeOf3
  v3 := Tryz.zeroValue3
  t46 := Tryz.underlying164
  a46 := Tryz.isAgg164
  z46 := Tryz.sizeOf164
  v46 := Tryz.zeroValue164 }
open Go.Lib in
/-- internal/strconv.log10Pow2: "log10Pow2(x) returns ⌊log₁₀ 2**x⌋ = ⌊x * log₁₀ 2⌋.": '(x * 78913) >> 18', at an x up to 64 (a length in bits). The world is as it was. (LAID: no walk: one application.) -/
theorem Tryz.internal_strconv_log10Pow2 (x : Nat) (h : x ≤ 64) (w : World) :
    Calls Tryz.prog 152 #[.int .i64 x] w fun e w' => e = .returned (.int .i64 (Lib.l10 x)) ∧ w' = w := Any.internal_strconv_log10Pow2 Tryz.lays317 x h w
def Tryz.lays318_ren : Go.Shelf.Ren := ⟨fun | 318 => 153 | n => n, fun | 3 => 3 | 4 => 4 | n => n, fun | n => n⟩
theorem Tryz.lays318 : Go.Proofs.Lays.n318 Tryz.prog Tryz.lays318_ren := {
  mixed := by kernel_rfl
  f318 := Tryz.func153.trans (congrArg some (by kernel_rfl))
  t3 := Tryz.underlying3
  a3 := Tryz.isAgg3
  z3 := Tryz.sizeOf3
  v3 := Tryz.zeroValue3
  t4 := Tryz.underlying4
  a4 := Tryz.isAgg4
  z4 := Tryz.sizeOf4
  v4 := Tryz.zeroValue4 }
open Go.Lib in
/-- internal/strconv.bool2: "bool2 converts b to an integer: 1 for true, 0 for false." The world is as it was. (LAID: no walk: one application.) -/
theorem Tryz.internal_strconv_bool2_int (b : Bool) (w : World) :
    Calls Tryz.prog 153 #[.bool b] w fun e w' => e = .returned (.int .i64 (if b then 1 else 0)) ∧ w' = w := Any.internal_strconv_bool2_int Tryz.lays318 b w
def Tryz.lays283_ren : Go.Shelf.Ren := ⟨fun | 283 => 148 | n => n, fun | 3 => 3 | 9 => 9 | 4 => 4 | n => n, fun | n => n⟩
theorem Tryz.lays283 : Go.Proofs.Lays.n283 Tryz.prog Tryz.lays283_ren := {
  mixed := by kernel_rfl
  f283 := Tryz.func148.trans (congrArg some (by kernel_rfl))
  t3 := Tryz.underlying3
  a3 := Tryz.isAgg3
  z3 := Tryz.sizeOf3
  v3 := Tryz.zeroValue3
  t4 := Tryz.underlying4
  a4 := Tryz.isAgg4
  z4 := Tryz.sizeOf4
  v4 := Tryz.zeroValue4
  t9 := Tryz.underlying9
  a9 := Tryz.isAgg9
  z9 := Tryz.sizeOf9
  v9 := Tryz.zeroValue9 }
open Go.Lib in
/-- internal/strconv.small: "small returns the string for an i with 0 <= i < nSmalls.": i's decimal numeral. The world is as it was. (LAID: no walk: one application.) -/
theorem Tryz.internal_strconv_small (i : Nat) (h : i < 100) (w : World) :
    Calls Tryz.prog 148 #[.int .i64 i] w fun e w' => e = .returned (.string ⟨(Lib.decDigits i).toArray⟩) ∧ w' = w := Any.internal_strconv_small Tryz.lays283 i h w
def Tryz.laysM284_ren : Go.Shelf.Ren := ⟨fun | 284 => 149 | 129 => 112 | 317 => 152 | 318 => 153 | n => n, fun | 53 => 125 | 3 => 3 | 212 => 251 | 0 => 0 | 4 => 4 | 46 => 164 | 5 => 5 | 9 => 9 | n => n, fun | 17 => 13 | n => n⟩
theorem Tryz.laysM284 : Go.Proofs.LaysM.n284 Tryz.prog Tryz.laysM284_ren := {
  mixed := by kernel_rfl
  f129 := Tryz.func112.trans (congrArg some (by kernel_rfl))
  f284 := Tryz.func149.trans (congrArg some (by kernel_rfl))
  f317 := Tryz.func152.trans (congrArg some (by kernel_rfl))
  f318 := Tryz.func153.trans (congrArg some (by kernel_rfl))
  t0 := Tryz.underlying0
  a0 := Tryz.isAgg0
  z0 := Tryz.sizeOf0
  v0 := Tryz.zeroValue0
  t3 := Tryz.underlying3
  a3 := Tryz.isAgg3
  z3 := Tryz.sizeOf3
  v3 := Tryz.zeroValue3
  t4 := Tryz.underlying4
  a4 := Tryz.isAgg4
  z4 := Tryz.sizeOf4
  v4 := Tryz.zeroValue4
  t5 := Tryz.underlying5
  a5 := Tryz.isAgg5
  z5 := Tryz.sizeOf5
  v5 := Tryz.zeroValue5
  t9 := Tryz.underlying9
  a9 := Tryz.isAgg9
  z9 := Tryz.sizeOf9
  v9 := Tryz.zeroValue9
  t46 := Tryz.underlying164
  a46 := Tryz.isAgg164
  z46 := Tryz.sizeOf164
  v46 := Tryz.zeroValue164
  t53 := Tryz.underlying125
  a53 := Tryz.isAgg125
  z53 := Tryz.sizeOf125
  v53 := Tryz.zeroValue125
  t212 := Tryz.underlying251
  a212 := Tryz.isAgg251
  z212 := Tryz.sizeOf251
  v212 := Tryz.zeroValue251
  g17 := by kernel_rfl
  i0 := by kernel_rfl
  i3 := by kernel_rfl
  i4 := by kernel_rfl
  i5 := by kernel_rfl
  i9 := by kernel_rfl
  i46 := by kernel_rfl
  i53 := by kernel_rfl
  i212 := by kernel_rfl
  m17 := by kernel_rfl }
open Go.Lib in
/-- internal/strconv.numDigits, at a d that is not 0: THE NUMBER OF d's DECIMAL DIGITS. The world is as it was. (LAID: no walk: one application.) -/
theorem Tryz.internal_strconv_numDigits (u : Nat) (h1 : 1 ≤ u) (h2 : u < 18446744073709551616) (w : World) (htab : Lib.TabIs Tryz.prog w "internal/strconv.uint64pow10" .u64 Lib.pow10Tab) :
    Calls Tryz.prog 149 #[.int .u64 u] w fun e w' => e = .returned (.int .i64 (Lib.nDigits u)) ∧ w' = w := Any.internal_strconv_numDigits Tryz.laysM284 u h1 h2 w htab
def Tryz.lays285_ren : Go.Shelf.Ren := ⟨fun | 285 => 150 | n => n, fun | 37 => 56 | 53 => 125 | 3 => 3 | 4 => 4 | 51 => 25 | 9 => 9 | 5 => 5 | 0 => 0 | n => n, fun | n => n⟩
theorem Tryz.lays285 : Go.Proofs.Lays.n285 Tryz.prog Tryz.lays285_ren := {
  mixed := by kernel_rfl
  f285 := Tryz.func150.trans (congrArg some (by kernel_rfl))
  t0 := Tryz.underlying0
  a0 := Tryz.isAgg0
  z0 := Tryz.sizeOf0
  v0 := Tryz.zeroValue0
  t3 := Tryz.underlying3
  a3 := Tryz.isAgg3
  z3 := Tryz.sizeOf3
  v3 := Tryz.zeroValue3
  t4 := Tryz.underlying4
  a4 := Tryz.isAgg4
  z4 := Tryz.sizeOf4
  v4 := Tryz.zeroValue4
  t5 := Tryz.underlying5
  a5 := Tryz.isAgg5
  z5 := Tryz.sizeOf5
  v5 := Tryz.zeroValue5
  t9 := Tryz.underlying9
  a9 := Tryz.isAgg9
  z9 := Tryz.sizeOf9
  v9 := Tryz.zeroValue9
  t37 := Tryz.underlying56
  a37 := Tryz.isAgg56
  z37 := Tryz.sizeOf56
  v37 := Tryz.zeroValue56
  t51 := Tryz.underlying25
  a51 := Tryz.isAgg25
  z51 := Tryz.sizeOf25
  v51 := Tryz.zeroValue25
  t53 := Tryz.underlying125
  a53 := Tryz.isAgg125
  z53 := Tryz.sizeOf125
  v53 := Tryz.zeroValue125 }
open Go.RowKit Go.Sort Go.Lib in
/-- internal/strconv.formatBase10: "formatBase10 formats the decimal representation of u into a. The caller is responsible for ensuring that a is big enough to hold u. If a is too big, leading zeros will be filled in as needed.": THE ROW HOLDS u's DIGITS ('FmtInv .. 0 ..': every place t holds 'dg u (len - 1 - t)'); all else is as it was but for the count of draws. (LAID: no walk: one application.) -/
theorem Tryz.internal_strconv_formatBase10 (blk off cap : Nat) (u : Nat) (d : Array UInt8) (w : World) (hH : Holds (fun (b : UInt8) => Value.int .u8 (b.toNat : Int)) w blk off d) (hu : u < 10 ^ d.size) (hu64 : u < 18446744073709551616) (hsz : d.size < 4611686018427387904) :
    Calls Tryz.prog 150 #[.slice (some ⟨blk, off, none⟩) d.size cap, .int .u64 u] w fun e w' =>
      e = .returned (.tuple #[]) ∧ ∃ (n v' : Nat) (dk : Array UInt8), w' = (putRow (fun (b : UInt8) => Value.int .u8 (b.toNat : Int)) w blk off dk).drewN n ∧ FmtInv d.size u 0 v' dk := Any.internal_strconv_formatBase10 Tryz.lays285 blk off cap u d w hH hu hu64 hsz
def Tryz.laysM246_ren : Go.Shelf.Ren := ⟨fun | 246 => 147 | 283 => 148 | 284 => 149 | 285 => 150 | 286 => 151 | 129 => 112 | 317 => 152 | 318 => 153 | 319 => 154 | 320 => 155 | 337 => 156 | 338 => 157 | n => n, fun | 2 => 2 | 3 => 3 | 9 => 9 | 4 => 4 | 171 => 246 | 0 => 0 | 53 => 125 | 37 => 56 | 5 => 5 | 173 => 248 | 212 => 251 | 51 => 25 | 20 => 20 | 213 => 252 | 46 => 164 | 232 => 253 | 233 => 254 | n => n, fun | 17 => 13 | 18 => 14 | 19 => 15 | n => n⟩
theorem Tryz.laysM246 : Go.Proofs.LaysM.n246 Tryz.prog Tryz.laysM246_ren := {
  mixed := by kernel_rfl
  f129 := Tryz.func112.trans (congrArg some (by kernel_rfl))
  f246 := Tryz.func147.trans (congrArg some (by kernel_rfl))
  f283 := Tryz.func148.trans (congrArg some (by kernel_rfl))
  f284 := Tryz.func149.trans (congrArg some (by kernel_rfl))
  f285 := Tryz.func150.trans (congrArg some (by kernel_rfl))
  f286 := Tryz.func151.trans (congrArg some (by kernel_rfl))
  f317 := Tryz.func152.trans (congrArg some (by kernel_rfl))
  f318 := Tryz.func153.trans (congrArg some (by kernel_rfl))
  f319 := Tryz.func154.trans (congrArg some (by kernel_rfl))
  f320 := Tryz.func155.trans (congrArg some (by kernel_rfl))
  f337 := Tryz.func156.trans (congrArg some (by kernel_rfl))
  f338 := Tryz.func157.trans (congrArg some (by kernel_rfl))
  t0 := Tryz.underlying0
  a0 := Tryz.isAgg0
  z0 := Tryz.sizeOf0
  v0 := Tryz.zeroValue0
  t2 := Tryz.underlying2
  a2 := Tryz.isAgg2
  z2 := Tryz.sizeOf2
  v2 := Tryz.zeroValue2
  t3 := Tryz.underlying3
  a3 := Tryz.isAgg3
  z3 := Tryz.sizeOf3
  v3 := Tryz.zeroValue3
  t4 := Tryz.underlying4
  a4 := Tryz.isAgg4
  z4 := Tryz.sizeOf4
  v4 := Tryz.zeroValue4
  t5 := Tryz.underlying5
  a5 := Tryz.isAgg5
  z5 := Tryz.sizeOf5
  v5 := Tryz.zeroValue5
  t9 := Tryz.underlying9
  a9 := Tryz.isAgg9
  z9 := Tryz.sizeOf9
  v9 := Tryz.zeroValue9
  t20 := Tryz.underlying20
  a20 := Tryz.isAgg20
  z20 := Tryz.sizeOf20
  v20 := Tryz.zeroValue20
  t37 := Tryz.underlying56
  a37 := Tryz.isAgg56
  z37 := Tryz.sizeOf56
  v37 := Tryz.zeroValue56
  t46 := Tryz.underlying164
  a46 := Tryz.isAgg164
  z46 := Tryz.sizeOf164
  v46 := Tryz.zeroValue164
  t51 := Tryz.underlying25
  a51 := Tryz.isAgg25
  z51 := Tryz.sizeOf25
  v51 := Tryz.zeroValue25
  t53 := Tryz.underlying125
  a53 := Tryz.isAgg125
  z53 := Tryz.sizeOf125
  v53 := Tryz.zeroValue125
  t171 := Tryz.underlying246
  a171 := Tryz.isAgg246
  z171 := Tryz.sizeOf246
  v171 := Tryz.zeroValue246
  t173 := Tryz.underlying248
  a173 := Tryz.isAgg248
  z173 := Tryz.sizeOf248
  v173 := Tryz.zeroValue248
  t212 := Tryz.underlying251
  a212 := Tryz.isAgg251
  z212 := Tryz.sizeOf251
  v212 := Tryz.zeroValue251
  t213 := Tryz.underlying252
  a213 := Tryz.isAgg252
  z213 := Tryz.sizeOf252
  t232 := Tryz.underlying253
  a232 := Tryz.isAgg253
  z232 := Tryz.sizeOf253
  v232 := Tryz.zeroValue253
  t233 := Tryz.underlying254
  a233 := Tryz.isAgg254
  z233 := Tryz.sizeOf254
  v233 := Tryz.zeroValue254
  g17 := by kernel_rfl
  g18 := by kernel_rfl
  g19 := by kernel_rfl
  i0 := by kernel_rfl
  i2 := by kernel_rfl
  i3 := by kernel_rfl
  i4 := by kernel_rfl
  i5 := by kernel_rfl
  i9 := by kernel_rfl
  i20 := by kernel_rfl
  i37 := by kernel_rfl
  i46 := by kernel_rfl
  i51 := by kernel_rfl
  i53 := by kernel_rfl
  i171 := by kernel_rfl
  i173 := by kernel_rfl
  i212 := by kernel_rfl
  i232 := by kernel_rfl
  i233 := by kernel_rfl
  m17 := by kernel_rfl
  m18 := by kernel_rfl
  m19 := by kernel_rfl }
open Go.RowKit Go.Sort Go.Lib in
/-- internal/strconv.FormatInt: "FormatInt returns the string representation of i in the given base": AT BASE 10: i's decimal numeral, for every int64. The world behind the call: the world before it, new blocks behind the heap, draws. (LAID: no walk: one application.) -/
theorem Tryz.internal_strconv_FormatInt_10 (n : Int) (h0 : -9223372036854775808 ≤ n) (h1 : n ≤ 9223372036854775807) (w : World) (htab : Lib.TabIs Tryz.prog w "internal/strconv.uint64pow10" .u64 Lib.pow10Tab) :
    Calls Tryz.prog 147 #[.int .i64 n, .int .i64 10] w fun e w' => e = .returned (.string ⟨(Lib.itoa n).toArray⟩) ∧ ∃ k os, w' = grow (w.drewN k) os := Any.internal_strconv_FormatInt_10 Tryz.laysM246 n h0 h1 w htab
def Tryz.lays246_ren : Go.Shelf.Ren := ⟨fun | 246 => 147 | 283 => 148 | 284 => 149 | 285 => 150 | 286 => 151 | 129 => 112 | 317 => 152 | 318 => 153 | 319 => 154 | 320 => 155 | 337 => 156 | 338 => 157 | n => n, fun | 2 => 2 | 3 => 3 | 9 => 9 | 4 => 4 | 171 => 246 | 0 => 0 | 53 => 125 | 37 => 56 | 5 => 5 | 173 => 248 | 212 => 251 | 51 => 25 | 20 => 20 | 213 => 252 | 46 => 164 | 232 => 253 | 233 => 254 | n => n, fun | 17 => 13 | 18 => 14 | 19 => 15 | n => n⟩
theorem Tryz.lays246 : Go.Proofs.Lays.n246 Tryz.prog Tryz.lays246_ren := {
  mixed := by kernel_rfl
  f129 := Tryz.func112.trans (congrArg some (by kernel_rfl))
  f246 := Tryz.func147.trans (congrArg some (by kernel_rfl))
  f283 := Tryz.func148.trans (congrArg some (by kernel_rfl))
  f284 := Tryz.func149.trans (congrArg some (by kernel_rfl))
  f285 := Tryz.func150.trans (congrArg some (by kernel_rfl))
  f286 := Tryz.func151.trans (congrArg some (by kernel_rfl))
  f317 := Tryz.func152.trans (congrArg some (by kernel_rfl))
  f318 := Tryz.func153.trans (congrArg some (by kernel_rfl))
  f319 := Tryz.func154.trans (congrArg some (by kernel_rfl))
  f320 := Tryz.func155.trans (congrArg some (by kernel_rfl))
  f337 := Tryz.func156.trans (congrArg some (by kernel_rfl))
  f338 := Tryz.func157.trans (congrArg some (by kernel_rfl))
  t0 := Tryz.underlying0
  a0 := Tryz.isAgg0
  z0 := Tryz.sizeOf0
  v0 := Tryz.zeroValue0
  t2 := Tryz.underlying2
  a2 := Tryz.isAgg2
  z2 := Tryz.sizeOf2
  v2 := Tryz.zeroValue2
  t3 := Tryz.underlying3
  a3 := Tryz.isAgg3
  z3 := Tryz.sizeOf3
  v3 := Tryz.zeroValue3
  t4 := Tryz.underlying4
  a4 := Tryz.isAgg4
  z4 := Tryz.sizeOf4
  v4 := Tryz.zeroValue4
  t5 := Tryz.underlying5
  a5 := Tryz.isAgg5
  z5 := Tryz.sizeOf5
  v5 := Tryz.zeroValue5
  t9 := Tryz.underlying9
  a9 := Tryz.isAgg9
  z9 := Tryz.sizeOf9
  v9 := Tryz.zeroValue9
  t20 := Tryz.underlying20
  a20 := Tryz.isAgg20
  z20 := Tryz.sizeOf20
  v20 := Tryz.zeroValue20
  t37 := Tryz.underlying56
  a37 := Tryz.isAgg56
  z37 := Tryz.sizeOf56
  v37 := Tryz.zeroValue56
  t46 := Tryz.underlying164
  a46 := Tryz.isAgg164
  z46 := Tryz.sizeOf164
  v46 := Tryz.zeroValue164
  t51 := Tryz.underlying25
  a51 := Tryz.isAgg25
  z51 := Tryz.sizeOf25
  v51 := Tryz.zeroValue25
  t53 := Tryz.underlying125
  a53 := Tryz.isAgg125
  z53 := Tryz.sizeOf125
  v53 := Tryz.zeroValue125
  t171 := Tryz.underlying246
  a171 := Tryz.isAgg246
  z171 := Tryz.sizeOf246
  v171 := Tryz.zeroValue246
  t173 := Tryz.underlying248
  a173 := Tryz.isAgg248
  z173 := Tryz.sizeOf248
  v173 := Tryz.zeroValue248
  t212 := Tryz.underlying251
  a212 := Tryz.isAgg251
  z212 := Tryz.sizeOf251
  v212 := Tryz.zeroValue251
  t213 := Tryz.underlying252
  a213 := Tryz.isAgg252
  z213 := Tryz.sizeOf252
  t232 := Tryz.underlying253
  a232 := Tryz.isAgg253
  z232 := Tryz.sizeOf253
  v232 := Tryz.zeroValue253
  t233 := Tryz.underlying254
  a233 := Tryz.isAgg254
  z233 := Tryz.sizeOf254
  v233 := Tryz.zeroValue254
  g17 := by kernel_rfl
  g18 := by kernel_rfl
  g19 := by kernel_rfl }
open Go.RowKit Go.Sort Go.Lib in
/-- THE ROAD WITHOUT THE TABLE: 0 <= i < 100: two constants are read, nothing is laid: no premise on the world, and the world is as it was. (LAID: no walk: one application.) -/
theorem Tryz.internal_strconv_FormatInt_10_small (i : Nat) (hi : i < 100) (w : World) :
    Calls Tryz.prog 147 #[.int .i64 i, .int .i64 10] w fun e w' => e = .returned (.string ⟨(Lib.decDigits i).toArray⟩) ∧ w' = w := Any.internal_strconv_FormatInt_10_small Tryz.lays246 i hi w
def Tryz.laysM243_ren : Go.Shelf.Ren := ⟨fun | 243 => 146 | 246 => 147 | 283 => 148 | 284 => 149 | 285 => 150 | 286 => 151 | 129 => 112 | 317 => 152 | 318 => 153 | 319 => 154 | 320 => 155 | 337 => 156 | 338 => 157 | n => n, fun | 3 => 3 | 9 => 9 | 2 => 2 | 4 => 4 | 171 => 246 | 0 => 0 | 53 => 125 | 37 => 56 | 5 => 5 | 173 => 248 | 212 => 251 | 51 => 25 | 20 => 20 | 213 => 252 | 46 => 164 | 232 => 253 | 233 => 254 | n => n, fun | 17 => 13 | 18 => 14 | 19 => 15 | n => n⟩
theorem Tryz.laysM243 : Go.Proofs.LaysM.n243 Tryz.prog Tryz.laysM243_ren := {
  mixed := by kernel_rfl
  f129 := Tryz.func112.trans (congrArg some (by kernel_rfl))
  f243 := Tryz.func146.trans (congrArg some (by kernel_rfl))
  f246 := Tryz.func147.trans (congrArg some (by kernel_rfl))
  f283 := Tryz.func148.trans (congrArg some (by kernel_rfl))
  f284 := Tryz.func149.trans (congrArg some (by kernel_rfl))
  f285 := Tryz.func150.trans (congrArg some (by kernel_rfl))
  f286 := Tryz.func151.trans (congrArg some (by kernel_rfl))
  f317 := Tryz.func152.trans (congrArg some (by kernel_rfl))
  f318 := Tryz.func153.trans (congrArg some (by kernel_rfl))
  f319 := Tryz.func154.trans (congrArg some (by kernel_rfl))
  f320 := Tryz.func155.trans (congrArg some (by kernel_rfl))
  f337 := Tryz.func156.trans (congrArg some (by kernel_rfl))
  f338 := Tryz.func157.trans (congrArg some (by kernel_rfl))
  t0 := Tryz.underlying0
  a0 := Tryz.isAgg0
  z0 := Tryz.sizeOf0
  v0 := Tryz.zeroValue0
  t2 := Tryz.underlying2
  a2 := Tryz.isAgg2
  z2 := Tryz.sizeOf2
  v2 := Tryz.zeroValue2
  t3 := Tryz.underlying3
  a3 := Tryz.isAgg3
  z3 := Tryz.sizeOf3
  v3 := Tryz.zeroValue3
  t4 := Tryz.underlying4
  a4 := Tryz.isAgg4
  z4 := Tryz.sizeOf4
  v4 := Tryz.zeroValue4
  t5 := Tryz.underlying5
  a5 := Tryz.isAgg5
  z5 := Tryz.sizeOf5
  v5 := Tryz.zeroValue5
  t9 := Tryz.underlying9
  a9 := Tryz.isAgg9
  z9 := Tryz.sizeOf9
  v9 := Tryz.zeroValue9
  t20 := Tryz.underlying20
  a20 := Tryz.isAgg20
  z20 := Tryz.sizeOf20
  v20 := Tryz.zeroValue20
  t37 := Tryz.underlying56
  a37 := Tryz.isAgg56
  z37 := Tryz.sizeOf56
  v37 := Tryz.zeroValue56
  t46 := Tryz.underlying164
  a46 := Tryz.isAgg164
  z46 := Tryz.sizeOf164
  v46 := Tryz.zeroValue164
  t51 := Tryz.underlying25
  a51 := Tryz.isAgg25
  z51 := Tryz.sizeOf25
  v51 := Tryz.zeroValue25
  t53 := Tryz.underlying125
  a53 := Tryz.isAgg125
  z53 := Tryz.sizeOf125
  v53 := Tryz.zeroValue125
  t171 := Tryz.underlying246
  a171 := Tryz.isAgg246
  z171 := Tryz.sizeOf246
  v171 := Tryz.zeroValue246
  t173 := Tryz.underlying248
  a173 := Tryz.isAgg248
  z173 := Tryz.sizeOf248
  v173 := Tryz.zeroValue248
  t212 := Tryz.underlying251
  a212 := Tryz.isAgg251
  z212 := Tryz.sizeOf251
  v212 := Tryz.zeroValue251
  t213 := Tryz.underlying252
  a213 := Tryz.isAgg252
  z213 := Tryz.sizeOf252
  t232 := Tryz.underlying253
  a232 := Tryz.isAgg253
  z232 := Tryz.sizeOf253
  v232 := Tryz.zeroValue253
  t233 := Tryz.underlying254
  a233 := Tryz.isAgg254
  z233 := Tryz.sizeOf254
  v233 := Tryz.zeroValue254
  g17 := by kernel_rfl
  g18 := by kernel_rfl
  g19 := by kernel_rfl
  i0 := by kernel_rfl
  i2 := by kernel_rfl
  i3 := by kernel_rfl
  i4 := by kernel_rfl
  i5 := by kernel_rfl
  i9 := by kernel_rfl
  i20 := by kernel_rfl
  i37 := by kernel_rfl
  i46 := by kernel_rfl
  i51 := by kernel_rfl
  i53 := by kernel_rfl
  i171 := by kernel_rfl
  i173 := by kernel_rfl
  i212 := by kernel_rfl
  i232 := by kernel_rfl
  i233 := by kernel_rfl
  m17 := by kernel_rfl
  m18 := by kernel_rfl
  m19 := by kernel_rfl }
open Go.RowKit Go.Sort Go.Lib in
/-- internal/strconv.Itoa: "Itoa is equivalent to FormatInt(int64(i), 10).": i's decimal numeral, for every int. (LAID: no walk: one application.) -/
theorem Tryz.internal_strconv_Itoa (n : Int) (h0 : -9223372036854775808 ≤ n) (h1 : n ≤ 9223372036854775807) (w : World) (htab : Lib.TabIs Tryz.prog w "internal/strconv.uint64pow10" .u64 Lib.pow10Tab) :
    Calls Tryz.prog 146 #[.int .i64 n] w fun e w' => e = .returned (.string ⟨(Lib.itoa n).toArray⟩) ∧ ∃ k os, w' = grow (w.drewN k) os := Any.internal_strconv_Itoa Tryz.laysM243 n h0 h1 w htab
def Tryz.lays243_ren : Go.Shelf.Ren := ⟨fun | 243 => 146 | 246 => 147 | 283 => 148 | 284 => 149 | 285 => 150 | 286 => 151 | 129 => 112 | 317 => 152 | 318 => 153 | 319 => 154 | 320 => 155 | 337 => 156 | 338 => 157 | n => n, fun | 3 => 3 | 9 => 9 | 2 => 2 | 4 => 4 | 171 => 246 | 0 => 0 | 53 => 125 | 37 => 56 | 5 => 5 | 173 => 248 | 212 => 251 | 51 => 25 | 20 => 20 | 213 => 252 | 46 => 164 | 232 => 253 | 233 => 254 | n => n, fun | 17 => 13 | 18 => 14 | 19 => 15 | n => n⟩
theorem Tryz.lays243 : Go.Proofs.Lays.n243 Tryz.prog Tryz.lays243_ren := {
  mixed := by kernel_rfl
  f129 := Tryz.func112.trans (congrArg some (by kernel_rfl))
  f243 := Tryz.func146.trans (congrArg some (by kernel_rfl))
  f246 := Tryz.func147.trans (congrArg some (by kernel_rfl))
  f283 := Tryz.func148.trans (congrArg some (by kernel_rfl))
  f284 := Tryz.func149.trans (congrArg some (by kernel_rfl))
  f285 := Tryz.func150.trans (congrArg some (by kernel_rfl))
  f286 := Tryz.func151.trans (congrArg some (by kernel_rfl))
  f317 := Tryz.func152.trans (congrArg some (by kernel_rfl))
  f318 := Tryz.func153.trans (congrArg some (by kernel_rfl))
  f319 := Tryz.func154.trans (congrArg some (by kernel_rfl))
  f320 := Tryz.func155.trans (congrArg some (by kernel_rfl))
  f337 := Tryz.func156.trans (congrArg some (by kernel_rfl))
  f338 := Tryz.func157.trans (congrArg some (by kernel_rfl))
  t0 := Tryz.underlying0
  a0 := Tryz.isAgg0
  z0 := Tryz.sizeOf0
  v0 := Tryz.zeroValue0
  t2 := Tryz.underlying2
  a2 := Tryz.isAgg2
  z2 := Tryz.sizeOf2
  v2 := Tryz.zeroValue2
  t3 := Tryz.underlying3
  a3 := Tryz.isAgg3
  z3 := Tryz.sizeOf3
  v3 := Tryz.zeroValue3
  t4 := Tryz.underlying4
  a4 := Tryz.isAgg4
  z4 := Tryz.sizeOf4
  v4 := Tryz.zeroValue4
  t5 := Tryz.underlying5
  a5 := Tryz.isAgg5
  z5 := Tryz.sizeOf5
  v5 := Tryz.zeroValue5
  t9 := Tryz.underlying9
  a9 := Tryz.isAgg9
  z9 := Tryz.sizeOf9
  v9 := Tryz.zeroValue9
  t20 := Tryz.underlying20
  a20 := Tryz.isAgg20
  z20 := Tryz.sizeOf20
  v20 := Tryz.zeroValue20
  t37 := Tryz.underlying56
  a37 := Tryz.isAgg56
  z37 := Tryz.sizeOf56
  v37 := Tryz.zeroValue56
  t46 := Tryz.underlying164
  a46 := Tryz.isAgg164
  z46 := Tryz.sizeOf164
  v46 := Tryz.zeroValue164
  t51 := Tryz.underlying25
  a51 := Tryz.isAgg25
  z51 := Tryz.sizeOf25
  v51 := Tryz.zeroValue25
  t53 := Tryz.underlying125
  a53 := Tryz.isAgg125
  z53 := Tryz.sizeOf125
  v53 := Tryz.zeroValue125
  t171 := Tryz.underlying246
  a171 := Tryz.isAgg246
  z171 := Tryz.sizeOf246
  v171 := Tryz.zeroValue246
  t173 := Tryz.underlying248
  a173 := Tryz.isAgg248
  z173 := Tryz.sizeOf248
  v173 := Tryz.zeroValue248
  t212 := Tryz.underlying251
  a212 := Tryz.isAgg251
  z212 := Tryz.sizeOf251
  v212 := Tryz.zeroValue251
  t213 := Tryz.underlying252
  a213 := Tryz.isAgg252
  z213 := Tryz.sizeOf252
  t232 := Tryz.underlying253
  a232 := Tryz.isAgg253
  z232 := Tryz.sizeOf253
  v232 := Tryz.zeroValue253
  t233 := Tryz.underlying254
  a233 := Tryz.isAgg254
  z233 := Tryz.sizeOf254
  v233 := Tryz.zeroValue254
  g17 := by kernel_rfl
  g18 := by kernel_rfl
  g19 := by kernel_rfl }
open Go.RowKit Go.Sort Go.Lib in
/-- THE ROAD WITHOUT THE TABLE: 0 <= i < 100. (LAID: no walk: one application.) -/
theorem Tryz.internal_strconv_Itoa_small (i : Nat) (hi : i < 100) (w : World) :
    Calls Tryz.prog 146 #[.int .i64 i] w fun e w' => e = .returned (.string ⟨(Lib.decDigits i).toArray⟩) ∧ w' = w := Any.internal_strconv_Itoa_small Tryz.lays243 i hi w
def Tryz.laysM171_ren : Go.Shelf.Ren := ⟨fun | 171 => 141 | 243 => 146 | 246 => 147 | 283 => 148 | 284 => 149 | 285 => 150 | 286 => 151 | 129 => 112 | 317 => 152 | 318 => 153 | 319 => 154 | 320 => 155 | 337 => 156 | 338 => 157 | n => n, fun | 3 => 3 | 9 => 9 | 2 => 2 | 4 => 4 | 171 => 246 | 0 => 0 | 53 => 125 | 37 => 56 | 5 => 5 | 173 => 248 | 212 => 251 | 51 => 25 | 20 => 20 | 213 => 252 | 46 => 164 | 232 => 253 | 233 => 254 | n => n, fun | 17 => 13 | 18 => 14 | 19 => 15 | n => n⟩
theorem Tryz.laysM171 : Go.Proofs.LaysM.n171 Tryz.prog Tryz.laysM171_ren := {
  mixed := by kernel_rfl
  f129 := Tryz.func112.trans (congrArg some (by kernel_rfl))
  f171 := Tryz.func141.trans (congrArg some (by kernel_rfl))
  f243 := Tryz.func146.trans (congrArg some (by kernel_rfl))
  f246 := Tryz.func147.trans (congrArg some (by kernel_rfl))
  f283 := Tryz.func148.trans (congrArg some (by kernel_rfl))
  f284 := Tryz.func149.trans (congrArg some (by kernel_rfl))
  f285 := Tryz.func150.trans (congrArg some (by kernel_rfl))
  f286 := Tryz.func151.trans (congrArg some (by kernel_rfl))
  f317 := Tryz.func152.trans (congrArg some (by kernel_rfl))
  f318 := Tryz.func153.trans (congrArg some (by kernel_rfl))
  f319 := Tryz.func154.trans (congrArg some (by kernel_rfl))
  f320 := Tryz.func155.trans (congrArg some (by kernel_rfl))
  f337 := Tryz.func156.trans (congrArg some (by kernel_rfl))
  f338 := Tryz.func157.trans (congrArg some (by kernel_rfl))
  t0 := Tryz.underlying0
  a0 := Tryz.isAgg0
  z0 := Tryz.sizeOf0
  v0 := Tryz.zeroValue0
  t2 := Tryz.underlying2
  a2 := Tryz.isAgg2
  z2 := Tryz.sizeOf2
  v2 := Tryz.zeroValue2
  t3 := Tryz.underlying3
  a3 := Tryz.isAgg3
  z3 := Tryz.sizeOf3
  v3 := Tryz.zeroValue3
  t4 := Tryz.underlying4
  a4 := Tryz.isAgg4
  z4 := Tryz.sizeOf4
  v4 := Tryz.zeroValue4
  t5 := Tryz.underlying5
  a5 := Tryz.isAgg5
  z5 := Tryz.sizeOf5
  v5 := Tryz.zeroValue5
  t9 := Tryz.underlying9
  a9 := Tryz.isAgg9
  z9 := Tryz.sizeOf9
  v9 := Tryz.zeroValue9
  t20 := Tryz.underlying20
  a20 := Tryz.isAgg20
  z20 := Tryz.sizeOf20
  v20 := Tryz.zeroValue20
  t37 := Tryz.underlying56
  a37 := Tryz.isAgg56
  z37 := Tryz.sizeOf56
  v37 := Tryz.zeroValue56
  t46 := Tryz.underlying164
  a46 := Tryz.isAgg164
  z46 := Tryz.sizeOf164
  v46 := Tryz.zeroValue164
  t51 := Tryz.underlying25
  a51 := Tryz.isAgg25
  z51 := Tryz.sizeOf25
  v51 := Tryz.zeroValue25
  t53 := Tryz.underlying125
  a53 := Tryz.isAgg125
  z53 := Tryz.sizeOf125
  v53 := Tryz.zeroValue125
  t171 := Tryz.underlying246
  a171 := Tryz.isAgg246
  z171 := Tryz.sizeOf246
  v171 := Tryz.zeroValue246
  t173 := Tryz.underlying248
  a173 := Tryz.isAgg248
  z173 := Tryz.sizeOf248
  v173 := Tryz.zeroValue248
  t212 := Tryz.underlying251
  a212 := Tryz.isAgg251
  z212 := Tryz.sizeOf251
  v212 := Tryz.zeroValue251
  t213 := Tryz.underlying252
  a213 := Tryz.isAgg252
  z213 := Tryz.sizeOf252
  t232 := Tryz.underlying253
  a232 := Tryz.isAgg253
  z232 := Tryz.sizeOf253
  v232 := Tryz.zeroValue253
  t233 := Tryz.underlying254
  a233 := Tryz.isAgg254
  z233 := Tryz.sizeOf254
  v233 := Tryz.zeroValue254
  g17 := by kernel_rfl
  g18 := by kernel_rfl
  g19 := by kernel_rfl
  i0 := by kernel_rfl
  i2 := by kernel_rfl
  i3 := by kernel_rfl
  i4 := by kernel_rfl
  i5 := by kernel_rfl
  i9 := by kernel_rfl
  i20 := by kernel_rfl
  i37 := by kernel_rfl
  i46 := by kernel_rfl
  i51 := by kernel_rfl
  i53 := by kernel_rfl
  i171 := by kernel_rfl
  i173 := by kernel_rfl
  i212 := by kernel_rfl
  i232 := by kernel_rfl
  i233 := by kernel_rfl
  m17 := by kernel_rfl
  m18 := by kernel_rfl
  m19 := by kernel_rfl }
open Go.RowKit Go.Sort Go.Lib in
/-- strconv.Itoa: "Itoa is equivalent to FormatInt(int64(i), 10).": i's DECIMAL NUMERAL ('Lib.itoa': a '-' where i is negative, then the digits), FOR EVERY int. The world behind the call: the world before it, new blocks behind the heap (the library's 'var a [24]byte'), draws. (LAID: no walk: one application.) -/
theorem Tryz.strconv_Itoa (n : Int) (h0 : -9223372036854775808 ≤ n) (h1 : n ≤ 9223372036854775807) (w : World) (htab : Lib.TabIs Tryz.prog w "internal/strconv.uint64pow10" .u64 Lib.pow10Tab) :
    Calls Tryz.prog 141 #[.int .i64 n] w fun e w' => e = .returned (.string ⟨(Lib.itoa n).toArray⟩) ∧ ∃ k os, w' = grow (w.drewN k) os := Any.strconv_Itoa Tryz.laysM171 n h0 h1 w htab
def Tryz.lays171_ren : Go.Shelf.Ren := ⟨fun | 171 => 141 | 243 => 146 | 246 => 147 | 283 => 148 | 284 => 149 | 285 => 150 | 286 => 151 | 129 => 112 | 317 => 152 | 318 => 153 | 319 => 154 | 320 => 155 | 337 => 156 | 338 => 157 | n => n, fun | 3 => 3 | 9 => 9 | 2 => 2 | 4 => 4 | 171 => 246 | 0 => 0 | 53 => 125 | 37 => 56 | 5 => 5 | 173 => 248 | 212 => 251 | 51 => 25 | 20 => 20 | 213 => 252 | 46 => 164 | 232 => 253 | 233 => 254 | n => n, fun | 17 => 13 | 18 => 14 | 19 => 15 | n => n⟩
theorem Tryz.lays171 : Go.Proofs.Lays.n171 Tryz.prog Tryz.lays171_ren := {
  mixed := by kernel_rfl
  f129 := Tryz.func112.trans (congrArg some (by kernel_rfl))
  f171 := Tryz.func141.trans (congrArg some (by kernel_rfl))
  f243 := Tryz.func146.trans (congrArg some (by kernel_rfl))
  f246 := Tryz.func147.trans (congrArg some (by kernel_rfl))
  f283 := Tryz.func148.trans (congrArg some (by kernel_rfl))
  f284 := Tryz.func149.trans (congrArg some (by kernel_rfl))
  f285 := Tryz.func150.trans (congrArg some (by kernel_rfl))
  f286 := Tryz.func151.trans (congrArg some (by kernel_rfl))
  f317 := Tryz.func152.trans (congrArg some (by kernel_rfl))
  f318 := Tryz.func153.trans (congrArg some (by kernel_rfl))
  f319 := Tryz.func154.trans (congrArg some (by kernel_rfl))
  f320 := Tryz.func155.trans (congrArg some (by kernel_rfl))
  f337 := Tryz.func156.trans (congrArg some (by kernel_rfl))
  f338 := Tryz.func157.trans (congrArg some (by kernel_rfl))
  t0 := Tryz.underlying0
  a0 := Tryz.isAgg0
  z0 := Tryz.sizeOf0
  v0 := Tryz.zeroValue0
  t2 := Tryz.underlying2
  a2 := Tryz.isAgg2
  z2 := Tryz.sizeOf2
  v2 := Tryz.zeroValue2
  t3 := Tryz.underlying3
  a3 := Tryz.isAgg3
  z3 := Tryz.sizeOf3
  v3 := Tryz.zeroValue3
  t4 := Tryz.underlying4
  a4 := Tryz.isAgg4
  z4 := Tryz.sizeOf4
  v4 := Tryz.zeroValue4
  t5 := Tryz.underlying5
  a5 := Tryz.isAgg5
  z5 := Tryz.sizeOf5
  v5 := Tryz.zeroValue5
  t9 := Tryz.underlying9
  a9 := Tryz.isAgg9
  z9 := Tryz.sizeOf9
  v9 := Tryz.zeroValue9
  t20 := Tryz.underlying20
  a20 := Tryz.isAgg20
  z20 := Tryz.sizeOf20
  v20 := Tryz.zeroValue20
  t37 := Tryz.underlying56
  a37 := Tryz.isAgg56
  z37 := Tryz.sizeOf56
  v37 := Tryz.zeroValue56
  t46 := Tryz.underlying164
  a46 := Tryz.isAgg164
  z46 := Tryz.sizeOf164
  v46 := Tryz.zeroValue164
  t51 := Tryz.underlying25
  a51 := Tryz.isAgg25
  z51 := Tryz.sizeOf25
  v51 := Tryz.zeroValue25
  t53 := Tryz.underlying125
  a53 := Tryz.isAgg125
  z53 := Tryz.sizeOf125
  v53 := Tryz.zeroValue125
  t171 := Tryz.underlying246
  a171 := Tryz.isAgg246
  z171 := Tryz.sizeOf246
  v171 := Tryz.zeroValue246
  t173 := Tryz.underlying248
  a173 := Tryz.isAgg248
  z173 := Tryz.sizeOf248
  v173 := Tryz.zeroValue248
  t212 := Tryz.underlying251
  a212 := Tryz.isAgg251
  z212 := Tryz.sizeOf251
  v212 := Tryz.zeroValue251
  t213 := Tryz.underlying252
  a213 := Tryz.isAgg252
  z213 := Tryz.sizeOf252
  t232 := Tryz.underlying253
  a232 := Tryz.isAgg253
  z232 := Tryz.sizeOf253
  v232 := Tryz.zeroValue253
  t233 := Tryz.underlying254
  a233 := Tryz.isAgg254
  z233 := Tryz.sizeOf254
  v233 := Tryz.zeroValue254
  g17 := by kernel_rfl
  g18 := by kernel_rfl
  g19 := by kernel_rfl }
open Go.RowKit Go.Sort Go.Lib in
/-- THE ROAD WITHOUT THE TABLE: 0 <= i < 100: NO PREMISE ON THE WORLD, AND THE WORLD IS AS IT WAS: a row that keeps its argument in that range need list no table ('laid = []'). (LAID: no walk: one application.) -/
theorem Tryz.strconv_Itoa_small (i : Nat) (hi : i < 100) (w : World) :
    Calls Tryz.prog 141 #[.int .i64 i] w fun e w' => e = .returned (.string ⟨(Lib.decDigits i).toArray⟩) ∧ w' = w := Any.strconv_Itoa_small Tryz.lays171 i hi w
def Tryz.laysPu14_ren : Go.Shelf.Ren := ⟨fun | 14 => 53 | 16 => 79 | 17 => 80 | 19 => 113 | 20 => 114 | 21 => 115 | 22 => 116 | 23 => 117 | 24 => 118 | 25 => 140 | 27 => 141 | 26 => 36 | 28 => 146 | 29 => 147 | 30 => 148 | 31 => 149 | 32 => 150 | 33 => 151 | 35 => 112 | 34 => 152 | 36 => 153 | 37 => 154 | 38 => 155 | 39 => 156 | 40 => 157 | n => n, fun | 9 => 9 | 3 => 3 | 22 => 125 | 24 => 40 | 25 => 126 | 4 => 4 | 34 => 197 | 5 => 5 | 36 => 164 | 37 => 56 | 0 => 0 | 39 => 200 | 21 => 21 | 44 => 232 | 47 => 177 | 50 => 144 | 48 => 142 | 2 => 2 | 52 => 246 | 55 => 248 | 59 => 251 | 60 => 25 | 20 => 20 | 61 => 252 | 65 => 253 | 66 => 254 | 67 => 128 | n => n, fun | 0 => 8 | 1 => 9 | 2 => 13 | 3 => 14 | 4 => 15 | n => n⟩
theorem Tryz.laysPu14 : Go.Proofs.LaysPu.n14 Tryz.prog Tryz.laysPu14_ren := {
  mixed := by kernel_rfl
  f14 := Tryz.func53.trans (congrArg some (by kernel_rfl))
  f16 := Tryz.func79.trans (congrArg some (by kernel_rfl))
  f17 := Tryz.func80.trans (congrArg some (by kernel_rfl))
  f19 := Tryz.func113.trans (congrArg some (by kernel_rfl))
  f20 := Tryz.func114.trans (congrArg some (by kernel_rfl))
  f21 := Tryz.func115.trans (congrArg some (by kernel_rfl))
  f22 := Tryz.func116.trans (congrArg some (by kernel_rfl))
  f23 := Tryz.func117.trans (congrArg some (by kernel_rfl))
  f24 := Tryz.func118.trans (congrArg some (by kernel_rfl))
  f25 := Tryz.func140.trans (congrArg some (by kernel_rfl))
  f26 := Tryz.func36.trans (congrArg some (by kernel_rfl))
  f27 := Tryz.func141.trans (congrArg some (by kernel_rfl))
  f28 := Tryz.func146.trans (congrArg some (by kernel_rfl))
  f29 := Tryz.func147.trans (congrArg some (by kernel_rfl))
  f30 := Tryz.func148.trans (congrArg some (by kernel_rfl))
  f31 := Tryz.func149.trans (congrArg some (by kernel_rfl))
  f32 := Tryz.func150.trans (congrArg some (by kernel_rfl))
  f33 := Tryz.func151.trans (congrArg some (by kernel_rfl))
  f34 := Tryz.func152.trans (congrArg some (by kernel_rfl))
  f35 := Tryz.func112.trans (congrArg some (by kernel_rfl))
  f36 := Tryz.func153.trans (congrArg some (by kernel_rfl))
  f37 := Tryz.func154.trans (congrArg some (by kernel_rfl))
  f38 := Tryz.func155.trans (congrArg some (by kernel_rfl))
  f39 := Tryz.func156.trans (congrArg some (by kernel_rfl))
  f40 := Tryz.func157.trans (congrArg some (by kernel_rfl))
  t0 := Tryz.underlying0
  a0 := Tryz.isAgg0
  z0 := Tryz.sizeOf0
  v0 := Tryz.zeroValue0
  i0 := by kernel_rfl
  t2 := Tryz.underlying2
  a2 := Tryz.isAgg2
  z2 := Tryz.sizeOf2
  v2 := Tryz.zeroValue2
  i2 := by kernel_rfl
  t3 := Tryz.underlying3
  a3 := Tryz.isAgg3
  z3 := Tryz.sizeOf3
  v3 := Tryz.zeroValue3
  i3 := by kernel_rfl
  t4 := Tryz.underlying4
  a4 := Tryz.isAgg4
  z4 := Tryz.sizeOf4
  v4 := Tryz.zeroValue4
  i4 := by kernel_rfl
  t5 := Tryz.underlying5
  a5 := Tryz.isAgg5
  z5 := Tryz.sizeOf5
  v5 := Tryz.zeroValue5
  i5 := by kernel_rfl
  t9 := Tryz.underlying9
  a9 := Tryz.isAgg9
  z9 := Tryz.sizeOf9
  v9 := Tryz.zeroValue9
  i9 := by kernel_rfl
  t20 := Tryz.underlying20
  a20 := Tryz.isAgg20
  z20 := Tryz.sizeOf20
  v20 := Tryz.zeroValue20
  i20 := by kernel_rfl
  t21 := Tryz.underlying21
  a21 := Tryz.isAgg21
  z21 := Tryz.sizeOf21
  v21 := Tryz.zeroValue21
  i21 := by kernel_rfl
  t22 := Tryz.underlying125
  a22 := Tryz.isAgg125
  z22 := Tryz.sizeOf125
  v22 := Tryz.zeroValue125
  i22 := by kernel_rfl
  t24 := Tryz.underlying40
  a24 := Tryz.isAgg40
  z24 := Tryz.sizeOf40
  v24 := Tryz.zeroValue40
  i24 := by kernel_rfl
  t25 := Tryz.underlying126
  a25 := Tryz.isAgg126
  z25 := Tryz.sizeOf126
  v25 := Tryz.zeroValue126
  i25 := by kernel_rfl
  t34 := Tryz.underlying197
  a34 := Tryz.isAgg197
  z34 := Tryz.sizeOf197
  v34 := Tryz.zeroValue197
  i34 := by kernel_rfl
  c34 := by kernel_rfl
  t36 := Tryz.underlying164
  a36 := Tryz.isAgg164
  z36 := Tryz.sizeOf164
  v36 := Tryz.zeroValue164
  i36 := by kernel_rfl
  t37 := Tryz.underlying56
  a37 := Tryz.isAgg56
  z37 := Tryz.sizeOf56
  v37 := Tryz.zeroValue56
  i37 := by kernel_rfl
  t39 := Tryz.underlying200
  a39 := Tryz.isAgg200
  z39 := Tryz.sizeOf200
  v39 := Tryz.zeroValue200
  i39 := by kernel_rfl
  t44 := Tryz.underlying232
  a44 := Tryz.isAgg232
  z44 := Tryz.sizeOf232
  v44 := Tryz.zeroValue232
  i44 := by kernel_rfl
  t47 := Tryz.underlying177
  a47 := Tryz.isAgg177
  z47 := Tryz.sizeOf177
  v47 := Tryz.zeroValue177
  i47 := by kernel_rfl
  t48 := Tryz.underlying142
  a48 := Tryz.isAgg142
  z48 := Tryz.sizeOf142
  v48 := Tryz.zeroValue142
  i48 := by kernel_rfl
  t50 := Tryz.underlying144
  a50 := Tryz.isAgg144
  z50 := Tryz.sizeOf144
  v50 := Tryz.zeroValue144
  i50 := by kernel_rfl
  t52 := Tryz.underlying246
  a52 := Tryz.isAgg246
  z52 := Tryz.sizeOf246
  v52 := Tryz.zeroValue246
  i52 := by kernel_rfl
  t55 := Tryz.underlying248
  a55 := Tryz.isAgg248
  z55 := Tryz.sizeOf248
  v55 := Tryz.zeroValue248
  i55 := by kernel_rfl
  t59 := Tryz.underlying251
  a59 := Tryz.isAgg251
  z59 := Tryz.sizeOf251
  v59 := Tryz.zeroValue251
  i59 := by kernel_rfl
  t60 := Tryz.underlying25
  a60 := Tryz.isAgg25
  z60 := Tryz.sizeOf25
  v60 := Tryz.zeroValue25
  i60 := by kernel_rfl
  t61 := Tryz.underlying252
  a61 := Tryz.isAgg252
  z61 := Tryz.sizeOf252
  t65 := Tryz.underlying253
  a65 := Tryz.isAgg253
  z65 := Tryz.sizeOf253
  v65 := Tryz.zeroValue253
  i65 := by kernel_rfl
  t66 := Tryz.underlying254
  a66 := Tryz.isAgg254
  z66 := Tryz.sizeOf254
  v66 := Tryz.zeroValue254
  i66 := by kernel_rfl
  t67 := Tryz.underlying128
  a67 := Tryz.isAgg128
  z67 := Tryz.sizeOf128
  v67 := Tryz.zeroValue128
  i67 := by kernel_rfl
  g0 := by kernel_rfl
  m0 := by kernel_rfl
  g1 := by kernel_rfl
  m1 := by kernel_rfl
  g2 := by kernel_rfl
  m2 := by kernel_rfl
  g3 := by kernel_rfl
  m3 := by kernel_rfl
  g4 := by kernel_rfl
  m4 := by kernel_rfl }
open Go.RowKit in
/-- strconv.ParseUint(s, 10, 0), AT EVERY STRING THAT SPELLS A uint64 ('Lib.parseUintB 64 s.data.toList = .ok u'): u, AND NO ERROR. (LAID: no walk: one application.) -/
theorem Tryz.strconv_ParseUint_10_at0_ok (s : ByteArray) (hmax : s.size ≤ 9223372036854775806) (u : Nat) (h : Lib.parseUintB 64 s.data.toList = .ok u) (w : World) :
    Calls Tryz.prog 53 #[.string s, .int .i64 10, .int .i64 0] w fun e w' => e = .returned (.tuple #[.int .u64 u, .nilIface]) ∧ (w' = w ∨ w' = Lib.bytesWorld w 5 s) := Any.strconv_ParseUint_10_at0_ok Tryz.laysPu14 s hmax u h w
open Go.RowKit in
/-- strconv.ParseUint(s, 10, 0), AT EVERY NUMERAL THAT NO uint64 HOLDS: THE GREATEST uint64, AND AN ERROR THAT IS NOT nil: a *NumError in a new block N: {Func: "ParseUint", Num: s's bytes, Err: what the variable ErrRange holds}. Of what was there nothing has turned. (LAID: no walk: one application.) -/
theorem Tryz.strconv_ParseUint_10_at0_range (s : ByteArray) (hlim : s.size ≤ 281474976710656) (h : Lib.parseUintB 64 s.data.toList = .range) (ev : Value) (w : World) (hv : w.cell? ⟨9, 0, none⟩ = some ev) (hev : ev = .nilIface ∨ ∃ te pe, ev = .iface te pe) :
    Calls Tryz.prog 53 #[.string s, .int .i64 10, .int .i64 0] w fun e w' => ∃ N, e = .returned (.tuple #[.int .u64 18446744073709551615, .iface 200 (.pointer (some ⟨N, 0, none⟩))]) ∧ w.heap.size ≤ N ∧ w'.heap[N]? = some (.cells #[.string ⟨#[80, 97, 114, 115, 101, 85, 105, 110, 116]⟩, .string s, ev] 232 (0, 0)) ∧ Below w.heap.size w w' := Any.strconv_ParseUint_10_at0_range Tryz.laysPu14 s hlim h ev w hv hev
open Go.RowKit in
/-- strconv.ParseUint(s, 10, 64), AT EVERY STRING THAT SPELLS A uint64 ('Lib.parseUintB 64 s.data.toList = .ok u'): u, AND NO ERROR. (LAID: no walk: one application.) -/
theorem Tryz.strconv_ParseUint_10_at64_ok (s : ByteArray) (hmax : s.size ≤ 9223372036854775806) (u : Nat) (h : Lib.parseUintB 64 s.data.toList = .ok u) (w : World) :
    Calls Tryz.prog 53 #[.string s, .int .i64 10, .int .i64 64] w fun e w' => e = .returned (.tuple #[.int .u64 u, .nilIface]) ∧ (w' = w ∨ w' = Lib.bytesWorld w 5 s) := Any.strconv_ParseUint_10_at64_ok Tryz.laysPu14 s hmax u h w
open Go.RowKit in
/-- strconv.ParseUint(s, 10, 64), AT EVERY NUMERAL THAT NO uint64 HOLDS: THE GREATEST uint64, AND AN ERROR THAT IS NOT nil: a *NumError in a new block N: {Func: "ParseUint", Num: s's bytes, Err: what the variable ErrRange holds}. Of what was there nothing has turned. (LAID: no walk: one application.) -/
theorem Tryz.strconv_ParseUint_10_at64_range (s : ByteArray) (hlim : s.size ≤ 281474976710656) (h : Lib.parseUintB 64 s.data.toList = .range) (ev : Value) (w : World) (hv : w.cell? ⟨9, 0, none⟩ = some ev) (hev : ev = .nilIface ∨ ∃ te pe, ev = .iface te pe) :
    Calls Tryz.prog 53 #[.string s, .int .i64 10, .int .i64 64] w fun e w' => ∃ N, e = .returned (.tuple #[.int .u64 18446744073709551615, .iface 200 (.pointer (some ⟨N, 0, none⟩))]) ∧ w.heap.size ≤ N ∧ w'.heap[N]? = some (.cells #[.string ⟨#[80, 97, 114, 115, 101, 85, 105, 110, 116]⟩, .string s, ev] 232 (0, 0)) ∧ Below w.heap.size w w' := Any.strconv_ParseUint_10_at64_range Tryz.laysPu14 s hlim h ev w hv hev
open Go.RowKit in
/-- strconv.ParseUint(s, 10, 32), AT EVERY STRING THAT SPELLS A uint32 ('Lib.parseUintB 32 s.data.toList = .ok u'): u, AND NO ERROR. (LAID: no walk: one application.) -/
theorem Tryz.strconv_ParseUint_10_at32_ok (s : ByteArray) (hmax : s.size ≤ 9223372036854775806) (u : Nat) (h : Lib.parseUintB 32 s.data.toList = .ok u) (w : World) :
    Calls Tryz.prog 53 #[.string s, .int .i64 10, .int .i64 32] w fun e w' => e = .returned (.tuple #[.int .u64 u, .nilIface]) ∧ (w' = w ∨ w' = Lib.bytesWorld w 5 s) := Any.strconv_ParseUint_10_at32_ok Tryz.laysPu14 s hmax u h w
open Go.RowKit in
/-- strconv.ParseUint(s, 10, 32), AT EVERY NUMERAL THAT NO uint32 HOLDS: THE GREATEST uint32, AND AN ERROR THAT IS NOT nil: a *NumError in a new block N: {Func: "ParseUint", Num: s's bytes, Err: what the variable ErrRange holds}. Of what was there nothing has turned. (LAID: no walk: one application.) -/
theorem Tryz.strconv_ParseUint_10_at32_range (s : ByteArray) (hlim : s.size ≤ 281474976710656) (h : Lib.parseUintB 32 s.data.toList = .range) (ev : Value) (w : World) (hv : w.cell? ⟨9, 0, none⟩ = some ev) (hev : ev = .nilIface ∨ ∃ te pe, ev = .iface te pe) :
    Calls Tryz.prog 53 #[.string s, .int .i64 10, .int .i64 32] w fun e w' => ∃ N, e = .returned (.tuple #[.int .u64 4294967295, .iface 200 (.pointer (some ⟨N, 0, none⟩))]) ∧ w.heap.size ≤ N ∧ w'.heap[N]? = some (.cells #[.string ⟨#[80, 97, 114, 115, 101, 85, 105, 110, 116]⟩, .string s, ev] 232 (0, 0)) ∧ Below w.heap.size w w' := Any.strconv_ParseUint_10_at32_range Tryz.laysPu14 s hlim h ev w hv hev
open Go.RowKit in
/-- strconv.ParseUint(s, 10, 16), AT EVERY STRING THAT SPELLS A uint16 ('Lib.parseUintB 16 s.data.toList = .ok u'): u, AND NO ERROR. (LAID: no walk: one application.) -/
theorem Tryz.strconv_ParseUint_10_at16_ok (s : ByteArray) (hmax : s.size ≤ 9223372036854775806) (u : Nat) (h : Lib.parseUintB 16 s.data.toList = .ok u) (w : World) :
    Calls Tryz.prog 53 #[.string s, .int .i64 10, .int .i64 16] w fun e w' => e = .returned (.tuple #[.int .u64 u, .nilIface]) ∧ (w' = w ∨ w' = Lib.bytesWorld w 5 s) := Any.strconv_ParseUint_10_at16_ok Tryz.laysPu14 s hmax u h w
open Go.RowKit in
/-- strconv.ParseUint(s, 10, 16), AT EVERY NUMERAL THAT NO uint16 HOLDS: THE GREATEST uint16, AND AN ERROR THAT IS NOT nil: a *NumError in a new block N: {Func: "ParseUint", Num: s's bytes, Err: what the variable ErrRange holds}. Of what was there nothing has turned. (LAID: no walk: one application.) -/
theorem Tryz.strconv_ParseUint_10_at16_range (s : ByteArray) (hlim : s.size ≤ 281474976710656) (h : Lib.parseUintB 16 s.data.toList = .range) (ev : Value) (w : World) (hv : w.cell? ⟨9, 0, none⟩ = some ev) (hev : ev = .nilIface ∨ ∃ te pe, ev = .iface te pe) :
    Calls Tryz.prog 53 #[.string s, .int .i64 10, .int .i64 16] w fun e w' => ∃ N, e = .returned (.tuple #[.int .u64 65535, .iface 200 (.pointer (some ⟨N, 0, none⟩))]) ∧ w.heap.size ≤ N ∧ w'.heap[N]? = some (.cells #[.string ⟨#[80, 97, 114, 115, 101, 85, 105, 110, 116]⟩, .string s, ev] 232 (0, 0)) ∧ Below w.heap.size w w' := Any.strconv_ParseUint_10_at16_range Tryz.laysPu14 s hlim h ev w hv hev
open Go.RowKit in
/-- strconv.ParseUint(s, 10, 8), AT EVERY STRING THAT SPELLS A uint8 ('Lib.parseUintB 8 s.data.toList = .ok u'): u, AND NO ERROR. (LAID: no walk: one application.) -/
theorem Tryz.strconv_ParseUint_10_at8_ok (s : ByteArray) (hmax : s.size ≤ 9223372036854775806) (u : Nat) (h : Lib.parseUintB 8 s.data.toList = .ok u) (w : World) :
    Calls Tryz.prog 53 #[.string s, .int .i64 10, .int .i64 8] w fun e w' => e = .returned (.tuple #[.int .u64 u, .nilIface]) ∧ (w' = w ∨ w' = Lib.bytesWorld w 5 s) := Any.strconv_ParseUint_10_at8_ok Tryz.laysPu14 s hmax u h w
open Go.RowKit in
/-- strconv.ParseUint(s, 10, 8), AT EVERY NUMERAL THAT NO uint8 HOLDS: THE GREATEST uint8, AND AN ERROR THAT IS NOT nil: a *NumError in a new block N: {Func: "ParseUint", Num: s's bytes, Err: what the variable ErrRange holds}. Of what was there nothing has turned. (LAID: no walk: one application.) -/
theorem Tryz.strconv_ParseUint_10_at8_range (s : ByteArray) (hlim : s.size ≤ 281474976710656) (h : Lib.parseUintB 8 s.data.toList = .range) (ev : Value) (w : World) (hv : w.cell? ⟨9, 0, none⟩ = some ev) (hev : ev = .nilIface ∨ ∃ te pe, ev = .iface te pe) :
    Calls Tryz.prog 53 #[.string s, .int .i64 10, .int .i64 8] w fun e w' => ∃ N, e = .returned (.tuple #[.int .u64 255, .iface 200 (.pointer (some ⟨N, 0, none⟩))]) ∧ w.heap.size ≤ N ∧ w'.heap[N]? = some (.cells #[.string ⟨#[80, 97, 114, 115, 101, 85, 105, 110, 116]⟩, .string s, ev] 232 (0, 0)) ∧ Below w.heap.size w w' := Any.strconv_ParseUint_10_at8_range Tryz.laysPu14 s hlim h ev w hv hev
def Tryz.lays206_ren : Go.Shelf.Ren := ⟨fun | 206 => 101 | n => n, fun | 9 => 9 | 4 => 4 | 3 => 3 | n => n, fun | n => n⟩
theorem Tryz.lays206 : Go.Proofs.Lays.n206 Tryz.prog Tryz.lays206_ren := {
  mixed := by kernel_rfl
  f206 := Tryz.func101.trans (congrArg some (by kernel_rfl))
  t3 := Tryz.underlying3
  a3 := Tryz.isAgg3
  z3 := Tryz.sizeOf3
  v3 := Tryz.zeroValue3
  t4 := Tryz.underlying4
  a4 := Tryz.isAgg4
  z4 := Tryz.sizeOf4
  v4 := Tryz.zeroValue4
  t9 := Tryz.underlying9
  a9 := Tryz.isAgg9
  z9 := Tryz.sizeOf9
  v9 := Tryz.zeroValue9 }
open Go.RowKit Go.Lib in
/-- internal/stringslite.HasPrefix (what strings.HasPrefix calls). (LAID: no walk: one application.) -/
theorem Tryz.stringslite_HasPrefix (s p : ByteArray) (w : World) :
    Calls Tryz.prog 101 #[.string s, .string p] w fun e w' => e = .returned (.bool (Lib.hasPrefix s.data.toList p.data.toList)) ∧ w' = w := Any.stringslite_HasPrefix Tryz.lays206 s p w
def Tryz.lays207_ren : Go.Shelf.Ren := ⟨fun | 207 => 78 | n => n, fun | 9 => 9 | 4 => 4 | 3 => 3 | n => n, fun | n => n⟩
theorem Tryz.lays207 : Go.Proofs.Lays.n207 Tryz.prog Tryz.lays207_ren := {
  mixed := by kernel_rfl
  f207 := Tryz.func78.trans (congrArg some (by kernel_rfl))
  t3 := Tryz.underlying3
  a3 := Tryz.isAgg3
  z3 := Tryz.sizeOf3
  v3 := Tryz.zeroValue3
  t4 := Tryz.underlying4
  a4 := Tryz.isAgg4
  z4 := Tryz.sizeOf4
  v4 := Tryz.zeroValue4
  t9 := Tryz.underlying9
  a9 := Tryz.isAgg9
  z9 := Tryz.sizeOf9
  v9 := Tryz.zeroValue9 }
open Go.RowKit Go.Lib in
/-- internal/stringslite.HasSuffix (what strings.HasSuffix calls). (LAID: no walk: one application.) -/
theorem Tryz.stringslite_HasSuffix (s p : ByteArray) (w : World) (hs : s.size ≤ 9223372036854775807) :
    Calls Tryz.prog 78 #[.string s, .string p] w fun e w' => e = .returned (.bool (Lib.hasSuffix s.data.toList p.data.toList)) ∧ w' = w := Any.stringslite_HasSuffix Tryz.lays207 s p w hs
def Tryz.lays100_ren : Go.Shelf.Ren := ⟨fun | 100 => 52 | 207 => 78 | n => n, fun | 9 => 9 | 4 => 4 | 3 => 3 | n => n, fun | n => n⟩
theorem Tryz.lays100 : Go.Proofs.Lays.n100 Tryz.prog Tryz.lays100_ren := {
  mixed := by kernel_rfl
  f100 := Tryz.func52.trans (congrArg some (by kernel_rfl))
  f207 := Tryz.func78.trans (congrArg some (by kernel_rfl))
  t3 := Tryz.underlying3
  a3 := Tryz.isAgg3
  z3 := Tryz.sizeOf3
  v3 := Tryz.zeroValue3
  t4 := Tryz.underlying4
  a4 := Tryz.isAgg4
  z4 := Tryz.sizeOf4
  v4 := Tryz.zeroValue4
  t9 := Tryz.underlying9
  a9 := Tryz.isAgg9
  z9 := Tryz.sizeOf9
  v9 := Tryz.zeroValue9 }
open Go.RowKit Go.Lib in
/-- strings.HasSuffix: "HasSuffix reports whether the string s ends with suffix.": IT RETURNS 'Lib.hasSuffix s suffix'; the world is as it was. ('hs': no Go string is longer: a caller has it of every string that it was handed.) (LAID: no walk: one application.) -/
theorem Tryz.strings_HasSuffix (s p : ByteArray) (w : World) (hs : s.size ≤ 9223372036854775807) :
    Calls Tryz.prog 52 #[.string s, .string p] w fun e w' => e = .returned (.bool (Lib.hasSuffix s.data.toList p.data.toList)) ∧ w' = w := Any.strings_HasSuffix Tryz.lays100 s p w hs
def Tryz.lays208_ren : Go.Shelf.Ren := ⟨fun | 208 => 74 | 206 => 101 | n => n, fun | 9 => 9 | 4 => 4 | 3 => 3 | n => n, fun | n => n⟩
theorem Tryz.lays208 : Go.Proofs.Lays.n208 Tryz.prog Tryz.lays208_ren := {
  mixed := by kernel_rfl
  f206 := Tryz.func101.trans (congrArg some (by kernel_rfl))
  f208 := Tryz.func74.trans (congrArg some (by kernel_rfl))
  t3 := Tryz.underlying3
  a3 := Tryz.isAgg3
  z3 := Tryz.sizeOf3
  v3 := Tryz.zeroValue3
  t4 := Tryz.underlying4
  a4 := Tryz.isAgg4
  z4 := Tryz.sizeOf4
  v4 := Tryz.zeroValue4
  t9 := Tryz.underlying9
  a9 := Tryz.isAgg9
  z9 := Tryz.sizeOf9
  v9 := Tryz.zeroValue9 }
open Go.RowKit Go.Lib in
/-- internal/stringslite.TrimPrefix (what strings.TrimPrefix calls). (LAID: no walk: one application.) -/
theorem Tryz.stringslite_TrimPrefix (s p : ByteArray) (w : World) :
    Calls Tryz.prog 74 #[.string s, .string p] w fun e w' => e = .returned (.string ⟨(Lib.trimPrefix s.data.toList p.data.toList).toArray⟩) ∧ w' = w := Any.stringslite_TrimPrefix Tryz.lays208 s p w
def Tryz.lays101_ren : Go.Shelf.Ren := ⟨fun | 101 => 48 | 208 => 74 | 206 => 101 | n => n, fun | 9 => 9 | 4 => 4 | 3 => 3 | n => n, fun | n => n⟩
theorem Tryz.lays101 : Go.Proofs.Lays.n101 Tryz.prog Tryz.lays101_ren := {
  mixed := by kernel_rfl
  f101 := Tryz.func48.trans (congrArg some (by kernel_rfl))
  f206 := Tryz.func101.trans (congrArg some (by kernel_rfl))
  f208 := Tryz.func74.trans (congrArg some (by kernel_rfl))
  t3 := Tryz.underlying3
  a3 := Tryz.isAgg3
  z3 := Tryz.sizeOf3
  v3 := Tryz.zeroValue3
  t4 := Tryz.underlying4
  a4 := Tryz.isAgg4
  z4 := Tryz.sizeOf4
  v4 := Tryz.zeroValue4
  t9 := Tryz.underlying9
  a9 := Tryz.isAgg9
  z9 := Tryz.sizeOf9
  v9 := Tryz.zeroValue9 }
open Go.RowKit Go.Lib in
/-- strings.TrimPrefix: "TrimPrefix returns s without the provided leading prefix string. If s doesn't start with prefix, s is returned unchanged.": IT RETURNS 'Lib.trimPrefix s prefix'; the world is as it was. (LAID: no walk: one application.) -/
theorem Tryz.strings_TrimPrefix (s p : ByteArray) (w : World) :
    Calls Tryz.prog 48 #[.string s, .string p] w fun e w' => e = .returned (.string ⟨(Lib.trimPrefix s.data.toList p.data.toList).toArray⟩) ∧ w' = w := Any.strings_TrimPrefix Tryz.lays101 s p w
def Tryz.lays203_ren : Go.Shelf.Ren := ⟨fun | 203 => 65 | 262 => 93 | 313 => 126 | 274 => 127 | 275 => 128 | n => n, fun | 21 => 21 | 4 => 4 | 3 => 3 | 162 => 210 | 203 => 208 | 160 => 215 | 46 => 164 | 0 => 0 | 208 => 240 | 51 => 25 | 206 => 238 | n => n, fun | 13 => 5 | n => n⟩
theorem Tryz.lays203 : Go.Proofs.Lays.n203 Tryz.prog Tryz.lays203_ren := {
  mixed := by kernel_rfl
  f203 := Tryz.func65.trans (congrArg some (by kernel_rfl))
  f262 := Tryz.func93.trans (congrArg some (by kernel_rfl))
  f274 := Tryz.func127.trans (congrArg some (by kernel_rfl))
  f275 := Tryz.func128.trans (congrArg some (by kernel_rfl))
  f313 := Tryz.func126.trans (congrArg some (by kernel_rfl))
  t0 := Tryz.underlying0
  a0 := Tryz.isAgg0
  z0 := Tryz.sizeOf0
  v0 := Tryz.zeroValue0
  t3 := Tryz.underlying3
  a3 := Tryz.isAgg3
  z3 := Tryz.sizeOf3
  v3 := Tryz.zeroValue3
  t4 := Tryz.underlying4
  a4 := Tryz.isAgg4
  z4 := Tryz.sizeOf4
  v4 := Tryz.zeroValue4
  t21 := Tryz.underlying21
  a21 := Tryz.isAgg21
  z21 := Tryz.sizeOf21
  v21 := Tryz.zeroValue21
  t46 := Tryz.underlying164
  a46 := Tryz.isAgg164
  z46 := Tryz.sizeOf164
  v46 := Tryz.zeroValue164
  t51 := Tryz.underlying25
  a51 := Tryz.isAgg25
  z51 := Tryz.sizeOf25
  v51 := Tryz.zeroValue25
  t160 := Tryz.underlying215
  a160 := Tryz.isAgg215
  z160 := Tryz.sizeOf215
  v160 := Tryz.zeroValue215
  t162 := Tryz.underlying210
  a162 := Tryz.isAgg210
  z162 := Tryz.sizeOf210
  v162 := Tryz.zeroValue210
  t203 := Tryz.underlying208
  a203 := Tryz.isAgg208
  z203 := Tryz.sizeOf208
  v203 := Tryz.zeroValue208
  t206 := Tryz.underlying238
  a206 := Tryz.isAgg238
  z206 := Tryz.sizeOf238
  v206 := Tryz.zeroValue238
  t208 := Tryz.underlying240
  a208 := Tryz.isAgg240
  z208 := Tryz.sizeOf240
  v208 := Tryz.zeroValue240
  g13 := by kernel_rfl }
open Go.RowKit Go.Lib in
theorem Tryz.unicode_ToUpper (r : Int) (w : World) (h : r ≤ 127) :
    Calls Tryz.prog 65 #[.int .i32 r] w fun e w' => e = .returned (.int .i32 (Lib.toUpperR r)) ∧ w' = w := Any.unicode_ToUpper Tryz.lays203 r w h
def Tryz.lays204_ren : Go.Shelf.Ren := ⟨fun | 204 => 95 | 262 => 93 | 313 => 126 | 274 => 127 | 275 => 128 | n => n, fun | 21 => 21 | 4 => 4 | 3 => 3 | 162 => 210 | 203 => 208 | 160 => 215 | 46 => 164 | 0 => 0 | 208 => 240 | 51 => 25 | 206 => 238 | n => n, fun | 13 => 5 | n => n⟩
theorem Tryz.lays204 : Go.Proofs.Lays.n204 Tryz.prog Tryz.lays204_ren := {
  mixed := by kernel_rfl
  f204 := Tryz.func95.trans (congrArg some (by kernel_rfl))
  f262 := Tryz.func93.trans (congrArg some (by kernel_rfl))
  f274 := Tryz.func127.trans (congrArg some (by kernel_rfl))
  f275 := Tryz.func128.trans (congrArg some (by kernel_rfl))
  f313 := Tryz.func126.trans (congrArg some (by kernel_rfl))
  t0 := Tryz.underlying0
  a0 := Tryz.isAgg0
  z0 := Tryz.sizeOf0
  v0 := Tryz.zeroValue0
  t3 := Tryz.underlying3
  a3 := Tryz.isAgg3
  z3 := Tryz.sizeOf3
  v3 := Tryz.zeroValue3
  t4 := Tryz.underlying4
  a4 := Tryz.isAgg4
  z4 := Tryz.sizeOf4
  v4 := Tryz.zeroValue4
  t21 := Tryz.underlying21
  a21 := Tryz.isAgg21
  z21 := Tryz.sizeOf21
  v21 := Tryz.zeroValue21
  t46 := Tryz.underlying164
  a46 := Tryz.isAgg164
  z46 := Tryz.sizeOf164
  v46 := Tryz.zeroValue164
  t51 := Tryz.underlying25
  a51 := Tryz.isAgg25
  z51 := Tryz.sizeOf25
  v51 := Tryz.zeroValue25
  t160 := Tryz.underlying215
  a160 := Tryz.isAgg215
  z160 := Tryz.sizeOf215
  v160 := Tryz.zeroValue215
  t162 := Tryz.underlying210
  a162 := Tryz.isAgg210
  z162 := Tryz.sizeOf210
  v162 := Tryz.zeroValue210
  t203 := Tryz.underlying208
  a203 := Tryz.isAgg208
  z203 := Tryz.sizeOf208
  v203 := Tryz.zeroValue208
  t206 := Tryz.underlying238
  a206 := Tryz.isAgg238
  z206 := Tryz.sizeOf238
  v206 := Tryz.zeroValue238
  t208 := Tryz.underlying240
  a208 := Tryz.isAgg240
  z208 := Tryz.sizeOf240
  v208 := Tryz.zeroValue240
  g13 := by kernel_rfl }
open Go.RowKit Go.Lib in
theorem Tryz.unicode_ToLower (r : Int) (w : World) (h : r ≤ 127) :
    Calls Tryz.prog 95 #[.int .i32 r] w fun e w' => e = .returned (.int .i32 (Lib.toLowerR r)) ∧ w' = w := Any.unicode_ToLower Tryz.lays204 r w h
def Tryz.lays197_ren : Go.Shelf.Ren := ⟨fun | 197 => 89 | 260 => 125 | n => n, fun | 9 => 9 | 21 => 21 | 3 => 3 | 4 => 4 | 5 => 5 | 105 => 178 | 119 => 233 | 0 => 0 | 46 => 164 | 139 => 236 | 138 => 235 | n => n, fun | 3 => 11 | 4 => 12 | n => n⟩
theorem Tryz.lays197 : Go.Proofs.Lays.n197 Tryz.prog Tryz.lays197_ren := {
  mixed := by kernel_rfl
  f197 := Tryz.func89.trans (congrArg some (by kernel_rfl))
  f260 := Tryz.func125.trans (congrArg some (by kernel_rfl))
  t0 := Tryz.underlying0
  a0 := Tryz.isAgg0
  z0 := Tryz.sizeOf0
  v0 := Tryz.zeroValue0
  t3 := Tryz.underlying3
  a3 := Tryz.isAgg3
  z3 := Tryz.sizeOf3
  v3 := Tryz.zeroValue3
  t4 := Tryz.underlying4
  a4 := Tryz.isAgg4
  z4 := Tryz.sizeOf4
  v4 := Tryz.zeroValue4
  t5 := Tryz.underlying5
  a5 := Tryz.isAgg5
  z5 := Tryz.sizeOf5
  v5 := Tryz.zeroValue5
  t9 := Tryz.underlying9
  a9 := Tryz.isAgg9
  z9 := Tryz.sizeOf9
  v9 := Tryz.zeroValue9
  t21 := Tryz.underlying21
  a21 := Tryz.isAgg21
  z21 := Tryz.sizeOf21
  v21 := Tryz.zeroValue21
  t46 := Tryz.underlying164
  a46 := Tryz.isAgg164
  z46 := Tryz.sizeOf164
  v46 := Tryz.zeroValue164
  t105 := Tryz.underlying178
  a105 := Tryz.isAgg178
  z105 := Tryz.sizeOf178
  v105 := Tryz.zeroValue178
  t119 := Tryz.underlying233
  a119 := Tryz.isAgg233
  z119 := Tryz.sizeOf233
  t138 := Tryz.underlying235
  a138 := Tryz.isAgg235
  z138 := Tryz.sizeOf235
  v138 := Tryz.zeroValue235
  t139 := Tryz.underlying236
  a139 := Tryz.isAgg236
  z139 := Tryz.sizeOf236
  v139 := Tryz.zeroValue236
  g3 := by kernel_rfl
  g4 := by kernel_rfl }
open Go.RowKit Go.Lib in
/-- unicode/utf8.DecodeRuneInString: "DecodeRuneInString is like DecodeRune but its input is a string.": ("DecodeRune unpacks the first UTF-8 encoding in p and returns the rune and its width in bytes."): WHERE s BEGINS WITH AN ASCII BYTE x: (x, 1). (LAID: no walk: one application.) -/
theorem Tryz.utf8_DecodeRuneInString_ascii (s : ByteArray) (x : UInt8) (w : World) (h0 : s.data.toList[0]? = some x) (hx : x.toNat < 128) :
    Calls Tryz.prog 89 #[.string s] w fun e w' => e = .returned (.tuple #[.int .i32 x.toNat, .int .i64 1]) ∧ w' = w := Any.utf8_DecodeRuneInString_ascii Tryz.lays197 s x w h0 hx
def Tryz.lays260_ren : Go.Shelf.Ren := ⟨fun | 260 => 125 | n => n, fun | 9 => 9 | 21 => 21 | 3 => 3 | 4 => 4 | 5 => 5 | 119 => 233 | 0 => 0 | 46 => 164 | 139 => 236 | 138 => 235 | n => n, fun | 3 => 11 | 4 => 12 | n => n⟩
theorem Tryz.lays260 : Go.Proofs.Lays.n260 Tryz.prog Tryz.lays260_ren := {
  mixed := by kernel_rfl
  f260 := Tryz.func125.trans (congrArg some (by kernel_rfl))
  t0 := Tryz.underlying0
  a0 := Tryz.isAgg0
  z0 := Tryz.sizeOf0
  v0 := Tryz.zeroValue0
  t3 := Tryz.underlying3
  a3 := Tryz.isAgg3
  z3 := Tryz.sizeOf3
  v3 := Tryz.zeroValue3
  t4 := Tryz.underlying4
  a4 := Tryz.isAgg4
  z4 := Tryz.sizeOf4
  v4 := Tryz.zeroValue4
  t5 := Tryz.underlying5
  a5 := Tryz.isAgg5
  z5 := Tryz.sizeOf5
  v5 := Tryz.zeroValue5
  t9 := Tryz.underlying9
  a9 := Tryz.isAgg9
  z9 := Tryz.sizeOf9
  v9 := Tryz.zeroValue9
  t21 := Tryz.underlying21
  a21 := Tryz.isAgg21
  z21 := Tryz.sizeOf21
  v21 := Tryz.zeroValue21
  t46 := Tryz.underlying164
  a46 := Tryz.isAgg164
  z46 := Tryz.sizeOf164
  v46 := Tryz.zeroValue164
  t119 := Tryz.underlying233
  a119 := Tryz.isAgg233
  z119 := Tryz.sizeOf233
  t138 := Tryz.underlying235
  a138 := Tryz.isAgg235
  z138 := Tryz.sizeOf235
  v138 := Tryz.zeroValue235
  t139 := Tryz.underlying236
  a139 := Tryz.isAgg236
  z139 := Tryz.sizeOf236
  v139 := Tryz.zeroValue236
  g3 := by kernel_rfl
  g4 := by kernel_rfl }
open Go.RowKit Go.Lib in
theorem Tryz.utf8_decodeRuneInStringSlow (s : ByteArray) (w : World) (hT : Lib.Utf8Tabs 11 12 w) :
    Calls Tryz.prog 125 #[.string s] w fun e w' => e = .returned (.tuple #[.int .i32 (Lib.decodeGo s).1, .int .i64 (Lib.decodeGo s).2]) ∧ Below w.heap.size w w' := Any.utf8_decodeRuneInStringSlow Tryz.lays260 s w hT
open Go.RowKit Go.Lib in
/-- **unicode/utf8.DecodeRuneInString AT EVERY STRING.** (LAID: no walk: one application.) -/
theorem Tryz.utf8_DecodeRuneInString (s : ByteArray) (w : World) (hT : Lib.Utf8Tabs 11 12 w) :
    Calls Tryz.prog 89 #[.string s] w fun e w' => e = .returned (.tuple #[.int .i32 (Lib.decodeGo s).1, .int .i64 (Lib.decodeGo s).2]) ∧ Below w.heap.size w w' := Any.utf8_DecodeRuneInString Tryz.lays197 s w hT
def Tryz.lays274_ren : Go.Shelf.Ren := ⟨fun | 274 => 127 | n => n, fun | 21 => 21 | 162 => 210 | 160 => 215 | 3 => 3 | 4 => 4 | 46 => 164 | 0 => 0 | 208 => 240 | 51 => 25 | 206 => 238 | n => n, fun | n => n⟩
theorem Tryz.lays274 : Go.Proofs.Lays.n274 Tryz.prog Tryz.lays274_ren := {
  mixed := by kernel_rfl
  f274 := Tryz.func127.trans (congrArg some (by kernel_rfl))
  t0 := Tryz.underlying0
  a0 := Tryz.isAgg0
  z0 := Tryz.sizeOf0
  v0 := Tryz.zeroValue0
  t3 := Tryz.underlying3
  a3 := Tryz.isAgg3
  z3 := Tryz.sizeOf3
  v3 := Tryz.zeroValue3
  t4 := Tryz.underlying4
  a4 := Tryz.isAgg4
  z4 := Tryz.sizeOf4
  v4 := Tryz.zeroValue4
  t21 := Tryz.underlying21
  a21 := Tryz.isAgg21
  z21 := Tryz.sizeOf21
  v21 := Tryz.zeroValue21
  t46 := Tryz.underlying164
  a46 := Tryz.isAgg164
  z46 := Tryz.sizeOf164
  v46 := Tryz.zeroValue164
  t51 := Tryz.underlying25
  a51 := Tryz.isAgg25
  z51 := Tryz.sizeOf25
  v51 := Tryz.zeroValue25
  t160 := Tryz.underlying215
  a160 := Tryz.isAgg215
  z160 := Tryz.sizeOf215
  v160 := Tryz.zeroValue215
  t162 := Tryz.underlying210
  a162 := Tryz.isAgg210
  z162 := Tryz.sizeOf210
  v162 := Tryz.zeroValue210
  t208 := Tryz.underlying240
  a208 := Tryz.isAgg240
  z208 := Tryz.sizeOf240
  v208 := Tryz.zeroValue240 }
open Go.RowKit Go.Lib in
theorem Tryz.unicode_lookupCaseRange (T : Array CaseRow) (R oR cap : Nat) (r : Int) (w : World) (hT : CaseTab R oR T w) (hok : CaseOk T) (hn : T.size ≤ 1000000000) :
    Calls Tryz.prog 127 #[.int .i32 r, .slice (some ⟨R, oR, none⟩) T.size cap] w fun e w' =>
      e = .returned (match lookupIdx T r (T.size + 1) 0 T.size with | some i => .pointer (some ⟨R, oR + i * 5, none⟩) | none => .pointer none) ∧ w' = w := Any.unicode_lookupCaseRange Tryz.lays274 T R oR cap r w hT hok hn
def Tryz.lays275_ren : Go.Shelf.Ren := ⟨fun | 275 => 128 | n => n, fun | 3 => 3 | 21 => 21 | 160 => 215 | 0 => 0 | 208 => 240 | 206 => 238 | 4 => 4 | 51 => 25 | n => n, fun | n => n⟩
theorem Tryz.lays275 : Go.Proofs.Lays.n275 Tryz.prog Tryz.lays275_ren := {
  mixed := by kernel_rfl
  f275 := Tryz.func128.trans (congrArg some (by kernel_rfl))
  t0 := Tryz.underlying0
  a0 := Tryz.isAgg0
  z0 := Tryz.sizeOf0
  v0 := Tryz.zeroValue0
  t3 := Tryz.underlying3
  a3 := Tryz.isAgg3
  z3 := Tryz.sizeOf3
  v3 := Tryz.zeroValue3
  t4 := Tryz.underlying4
  a4 := Tryz.isAgg4
  z4 := Tryz.sizeOf4
  v4 := Tryz.zeroValue4
  t21 := Tryz.underlying21
  a21 := Tryz.isAgg21
  z21 := Tryz.sizeOf21
  v21 := Tryz.zeroValue21
  t51 := Tryz.underlying25
  a51 := Tryz.isAgg25
  z51 := Tryz.sizeOf25
  v51 := Tryz.zeroValue25
  t160 := Tryz.underlying215
  a160 := Tryz.isAgg215
  z160 := Tryz.sizeOf215
  v160 := Tryz.zeroValue215
  t206 := Tryz.underlying238
  a206 := Tryz.isAgg238
  z206 := Tryz.sizeOf238
  v206 := Tryz.zeroValue238
  t208 := Tryz.underlying240
  a208 := Tryz.isAgg240
  z208 := Tryz.sizeOf240
  v208 := Tryz.zeroValue240 }
open Go.RowKit Go.Lib in
theorem Tryz.unicode_convertCase (c : Nat) (hc : c < 3) (r : Int) (A o : Nat) (x : CaseRow) (w : World) (hlo : (x.1 : Int) ≤ r) (hhi : r ≤ (x.2.1 : Int)) (hH : x.2.1 < 2147483647) (c0 : w.cell? ⟨A, o, none⟩ = some (.int .u32 x.1)) (cD : w.cell? ⟨A, o + 2 + c, none⟩ = some (.int .i32 (x.delta c))) :
    Calls Tryz.prog 128 #[.int .i64 c, .int .i32 r, .pointer (some ⟨A, o, none⟩)] w fun e w' => e = .returned (.int .i32 (wrap32 (convertR c r x))) ∧ ∃ q, w' = w.drewN q := Any.unicode_convertCase Tryz.lays275 c hc r A o x w hlo hhi hH c0 cD
def Tryz.lays313_ren : Go.Shelf.Ren := ⟨fun | 313 => 126 | 274 => 127 | 275 => 128 | n => n, fun | 3 => 3 | 21 => 21 | 162 => 210 | 4 => 4 | 160 => 215 | 46 => 164 | 0 => 0 | 208 => 240 | 51 => 25 | 206 => 238 | n => n, fun | n => n⟩
theorem Tryz.lays313 : Go.Proofs.Lays.n313 Tryz.prog Tryz.lays313_ren := {
  mixed := by kernel_rfl
  f274 := Tryz.func127.trans (congrArg some (by kernel_rfl))
  f275 := Tryz.func128.trans (congrArg some (by kernel_rfl))
  f313 := Tryz.func126.trans (congrArg some (by kernel_rfl))
  t0 := Tryz.underlying0
  a0 := Tryz.isAgg0
  z0 := Tryz.sizeOf0
  v0 := Tryz.zeroValue0
  t3 := Tryz.underlying3
  a3 := Tryz.isAgg3
  z3 := Tryz.sizeOf3
  v3 := Tryz.zeroValue3
  t4 := Tryz.underlying4
  a4 := Tryz.isAgg4
  z4 := Tryz.sizeOf4
  v4 := Tryz.zeroValue4
  t21 := Tryz.underlying21
  a21 := Tryz.isAgg21
  z21 := Tryz.sizeOf21
  v21 := Tryz.zeroValue21
  t46 := Tryz.underlying164
  a46 := Tryz.isAgg164
  z46 := Tryz.sizeOf164
  v46 := Tryz.zeroValue164
  t51 := Tryz.underlying25
  a51 := Tryz.isAgg25
  z51 := Tryz.sizeOf25
  v51 := Tryz.zeroValue25
  t160 := Tryz.underlying215
  a160 := Tryz.isAgg215
  z160 := Tryz.sizeOf215
  v160 := Tryz.zeroValue215
  t162 := Tryz.underlying210
  a162 := Tryz.isAgg210
  z162 := Tryz.sizeOf210
  v162 := Tryz.zeroValue210
  t206 := Tryz.underlying238
  a206 := Tryz.isAgg238
  z206 := Tryz.sizeOf238
  v206 := Tryz.zeroValue238
  t208 := Tryz.underlying240
  a208 := Tryz.isAgg240
  z208 := Tryz.sizeOf240
  v208 := Tryz.zeroValue240 }
open Go.RowKit Go.Lib in
theorem Tryz.unicode_to (c : Nat) (hc : c < 3) (r : Int) (T : Array CaseRow) (R oR cap : Nat) (w : World) (hT : CaseTab R oR T w) (hok : CaseOk2 T) (hn : T.size ≤ 1000000000) :
    Calls Tryz.prog 126 #[.int .i64 c, .int .i32 r, .slice (some ⟨R, oR, none⟩) T.size cap] w fun e w' => e = .returned (.tuple #[.int .i32 (toW T c r), .bool (lookupIdx T r (T.size + 1) 0 T.size).isSome]) ∧ ∃ q, w' = w.drewN q := Any.unicode_to Tryz.lays313 c hc r T R oR cap w hT hok hn
def Tryz.lays262_ren : Go.Shelf.Ren := ⟨fun | 262 => 93 | 313 => 126 | 274 => 127 | 275 => 128 | n => n, fun | 3 => 3 | 21 => 21 | 162 => 210 | 203 => 208 | 4 => 4 | 160 => 215 | 46 => 164 | 0 => 0 | 208 => 240 | 51 => 25 | 206 => 238 | n => n, fun | 13 => 5 | n => n⟩
theorem Tryz.lays262 : Go.Proofs.Lays.n262 Tryz.prog Tryz.lays262_ren := {
  mixed := by kernel_rfl
  f262 := Tryz.func93.trans (congrArg some (by kernel_rfl))
  f274 := Tryz.func127.trans (congrArg some (by kernel_rfl))
  f275 := Tryz.func128.trans (congrArg some (by kernel_rfl))
  f313 := Tryz.func126.trans (congrArg some (by kernel_rfl))
  t0 := Tryz.underlying0
  a0 := Tryz.isAgg0
  z0 := Tryz.sizeOf0
  v0 := Tryz.zeroValue0
  t3 := Tryz.underlying3
  a3 := Tryz.isAgg3
  z3 := Tryz.sizeOf3
  v3 := Tryz.zeroValue3
  t4 := Tryz.underlying4
  a4 := Tryz.isAgg4
  z4 := Tryz.sizeOf4
  v4 := Tryz.zeroValue4
  t21 := Tryz.underlying21
  a21 := Tryz.isAgg21
  z21 := Tryz.sizeOf21
  v21 := Tryz.zeroValue21
  t46 := Tryz.underlying164
  a46 := Tryz.isAgg164
  z46 := Tryz.sizeOf164
  v46 := Tryz.zeroValue164
  t51 := Tryz.underlying25
  a51 := Tryz.isAgg25
  z51 := Tryz.sizeOf25
  v51 := Tryz.zeroValue25
  t160 := Tryz.underlying215
  a160 := Tryz.isAgg215
  z160 := Tryz.sizeOf215
  v160 := Tryz.zeroValue215
  t162 := Tryz.underlying210
  a162 := Tryz.isAgg210
  z162 := Tryz.sizeOf210
  v162 := Tryz.zeroValue210
  t203 := Tryz.underlying208
  a203 := Tryz.isAgg208
  z203 := Tryz.sizeOf208
  v203 := Tryz.zeroValue208
  t206 := Tryz.underlying238
  a206 := Tryz.isAgg238
  z206 := Tryz.sizeOf238
  v206 := Tryz.zeroValue238
  t208 := Tryz.underlying240
  a208 := Tryz.isAgg240
  z208 := Tryz.sizeOf240
  v208 := Tryz.zeroValue240
  g13 := by kernel_rfl }
open Go.RowKit Go.Lib in
theorem Tryz.unicode_To (c : Nat) (hc : c < 3) (r : Int) (T : Array CaseRow) (w : World) (hV : CaseVar 5 T w) (hok : CaseOk2 T) (hn : T.size ≤ 1000000000) :
    Calls Tryz.prog 93 #[.int .i64 c, .int .i32 r] w fun e w' => e = .returned (.int .i32 (toW T c r)) ∧ ∃ q, w' = w.drewN q := Any.unicode_To Tryz.lays262 c hc r T w hV hok hn
open Go.RowKit Go.Lib in
theorem Tryz.unicode_ToLower_any (r : Int) (T : Array CaseRow) (w : World) (hV : CaseVar 5 T w) (hok : CaseOk2 T) (hn : T.size ≤ 1000000000) :
    Calls Tryz.prog 95 #[.int .i32 r] w fun e w' => e = .returned (.int .i32 (Lib.toLowerW T r)) ∧ ∃ q, w' = w.drewN q := Any.unicode_ToLower_any Tryz.lays204 r T w hV hok hn
open Go.RowKit Go.Lib in
theorem Tryz.unicode_ToUpper_any (r : Int) (T : Array CaseRow) (w : World) (hV : CaseVar 5 T w) (hok : CaseOk2 T) (hn : T.size ≤ 1000000000) :
    Calls Tryz.prog 65 #[.int .i32 r] w fun e w' => e = .returned (.int .i32 (Lib.toUpperW T r)) ∧ ∃ q, w' = w.drewN q := Any.unicode_ToUpper_any Tryz.lays203 r T w hV hok hn
open Go.RowKit Go.Lib in
theorem Tryz.unicode_ToLower_laid (r : Int) (w : World) (hV : CaseVar 5 caseA w) :
    Calls Tryz.prog 95 #[.int .i32 r] w fun e w' => e = .returned (.int .i32 (toLowerU r)) ∧ ∃ q, w' = w.drewN q := Any.unicode_ToLower_laid Tryz.lays204 r w hV
open Go.RowKit Go.Lib in
theorem Tryz.unicode_ToUpper_laid (r : Int) (w : World) (hV : CaseVar 5 caseA w) :
    Calls Tryz.prog 65 #[.int .i32 r] w fun e w' => e = .returned (.int .i32 (toUpperU r)) ∧ ∃ q, w' = w.drewN q := Any.unicode_ToUpper_laid Tryz.lays203 r w hV
end Go.Proofs
