/-
  DERIVED: THE SHELF's CONTRACTS AT THIS DUMP, IN PLAIN WORDS (tools/lay-plain.mjs out of 'TryzShelf.lean', which tools/lay-shelf.mjs wrote): THE SAME DECLARATIONS UNDER THE SAME NAMES: 'import', 'namespace', 'open', 'def', 'theorem' AND NOTHING ELSE: no command of the shelf's: FOR A HAND-IN. Each laying: the table of numbers ('.._ren') and one theorem, a field a fact of the dump's own or the kernel's comparison; each contract: ONE APPLICATION.
-/
import Derived.Shelf.Strings.Builder1
import Derived.Shelf.Strings.Builder2
import Derived.Shelf.Strings.OnBuilder
import Derived.Shelf.Small.Utf8
import Derived.Shelf.Strconv.Atoi
import Derived.Shelf.Strconv.Itoa0
import Derived.Shelf.Strconv.Itoa1
import Derived.Shelf.LaysM
import Derived.Shelf.Strconv.Itoa2
import Derived.Shelf.Strconv.Itoa3
import Derived.Shelf.Strings.LastIndex
import Derived.Shelf.Strings.Prefix
import Derived.Shelf.Unicode.Latin
import Derived.Shelf.Unicode.Decode
import Derived.Shelf.Unicode.DecodeSlow
import Derived.Shelf.Unicode.DecodeAny
import Derived.Shelf.Unicode.CaseLookup
import Derived.Shelf.Unicode.CaseConvert
import Derived.Shelf.Unicode.CaseTo
import Derived.Shelf.Unicode.CaseLaid
import Derived.Test.YtanombfdfpfcoaaGreatDoorProg
namespace Go.Proofs
open Go.Shelf
def Tryz.lays169_ren : Go.Shelf.Ren := ⟨fun | 169 => 38 | n => n, fun | 70 => 72 | 9 => 9 | 0 => 0 | 72 => 74 | 37 => 43 | 127 => 105 | 3 => 3 | 5 => 5 | n => n, fun | n => n⟩
theorem Tryz.lays169 : Go.Proofs.Lays.n169 Tryz.prog Tryz.lays169_ren := {
  mixed := by kernel_rfl
  f169 := Tryz.func38.trans (congrArg some (by kernel_rfl))
  t0 := Tryz.underlying0
  a0 := Tryz.isAgg0
  z0 := Tryz.sizeOf0
  v0 := Tryz.zeroValue0
  t3 := Tryz.underlying3
  a3 := Tryz.isAgg3
  z3 := Tryz.sizeOf3
  v3 := Tryz.zeroValue3
  t9 := Tryz.underlying9
  a9 := Tryz.isAgg9
  z9 := Tryz.sizeOf9
  v9 := Tryz.zeroValue9
  t37 := Tryz.underlying43
  a37 := Tryz.isAgg43
  z37 := Tryz.sizeOf43
  v37 := Tryz.zeroValue43
  t70 := Tryz.underlying72
  a70 := Tryz.isAgg72
  z70 := Tryz.sizeOf72
  v70 := Tryz.zeroValue72
  t72 := Tryz.underlying74
  a72 := Tryz.isAgg74
  z72 := Tryz.sizeOf74
  v72 := Tryz.zeroValue74
  t127 := Tryz.underlying105
  a127 := Tryz.isAgg105
  z127 := Tryz.sizeOf105
  v127 := Tryz.zeroValue105 }
theorem Tryz.Builder_Extra_169 : Builder.Extra Tryz.prog Tryz.lays169_ren := {
  sizeBuilder := by kernel_rfl
  liesBuilder := by kernel_rfl
  t5 := Tryz.underlying5
  a5 := Tryz.isAgg5
  z5 := Tryz.sizeOf5
  v5 := Tryz.zeroValue5
  infoByte := by kernel_rfl
  cellsByte := by kernel_rfl
  sizeByte := by kernel_rfl
  neB5 := by decide }
open Go.RowKit in
/-- (*strings.Builder).String: "String returns the accumulated string.": OF A BUILDER THAT HOLDS AT LEAST ONE BYTE. ✋ THE MODEL FREEZES THOSE BYTES IN THE BUFFER (unsafe.String): a later write INTO them ends the model's run without an answer; a later append BEHIND them goes on. The statement's order of evaluation is drawn: one draw. (LAID: no walk: one application.) -/
theorem Tryz.Builder_String (B b : Nat) (l : List UInt8) (w : World) (h : Lib.IsBuilder 74 5 B b (Lib.byteCells l) w) (h0 : l ≠ []) :
    Calls Tryz.prog 38 #[.pointer (some ⟨b, 0, none⟩)] w fun e w' => e = .returned (.string ⟨l.toArray⟩) ∧ Below B w w' := Any.Builder_String Tryz.lays169 Tryz.Builder_Extra_169 B b l w h h0
open Go.RowKit in
/-- (*strings.Builder).String OF A BUILDER THAT HOLDS NO BYTE: the empty string. (Its buffer is nil, or a row of which it has taken nothing yet; where that row has NO capacity the model lays one new block for unsafe.SliceData's 'some address'.) One draw. (LAID: no walk: one application.) -/
theorem Tryz.Builder_String_empty (B b : Nat) (w : World) (h : Lib.IsBuilder 74 5 B b [] w) (hBw : B ≤ w.heap.size) :
    Calls Tryz.prog 38 #[.pointer (some ⟨b, 0, none⟩)] w fun e w' => e = .returned (.string ⟨#[]⟩) ∧ Below B w w' := Any.Builder_String_empty Tryz.lays169 Tryz.Builder_Extra_169 B b w h hBw
open Go.RowKit in
/-- (*strings.Builder).String: "String returns the accumulated string.": WHATEVER THE BUILDER HOLDS. (LAID: no walk: one application.) -/
theorem Tryz.Builder_String_any (B b : Nat) (l : List UInt8) (w : World) (h : Lib.IsBuilder 74 5 B b (Lib.byteCells l) w) (hBw : B ≤ w.heap.size) :
    Calls Tryz.prog 38 #[.pointer (some ⟨b, 0, none⟩)] w fun e w' => e = .returned (.string ⟨l.toArray⟩) ∧ Below B w w' := Any.Builder_String_any Tryz.lays169 Tryz.Builder_Extra_169 B b l w h hBw
def Tryz.lays241_ren : Go.Shelf.Ren := ⟨fun | 241 => 54 | 277 => 78 | n => n, fun | 70 => 72 | 3 => 3 | 0 => 0 | 72 => 74 | 37 => 43 | 5 => 5 | n => n, fun | n => n⟩
theorem Tryz.lays241 : Go.Proofs.Lays.n241 Tryz.prog Tryz.lays241_ren := {
  mixed := by kernel_rfl
  f241 := Tryz.func54.trans (congrArg some (by kernel_rfl))
  f277 := Tryz.func78.trans (congrArg some (by kernel_rfl))
  t0 := Tryz.underlying0
  a0 := Tryz.isAgg0
  z0 := Tryz.sizeOf0
  v0 := Tryz.zeroValue0
  t3 := Tryz.underlying3
  a3 := Tryz.isAgg3
  z3 := Tryz.sizeOf3
  v3 := Tryz.zeroValue3
  t37 := Tryz.underlying43
  a37 := Tryz.isAgg43
  z37 := Tryz.sizeOf43
  v37 := Tryz.zeroValue43
  t70 := Tryz.underlying72
  a70 := Tryz.isAgg72
  z70 := Tryz.sizeOf72
  v70 := Tryz.zeroValue72
  t72 := Tryz.underlying74
  a72 := Tryz.isAgg74
  z72 := Tryz.sizeOf74
  v72 := Tryz.zeroValue74 }
theorem Tryz.Builder_Extra_241 : Builder.Extra Tryz.prog Tryz.lays241_ren := {
  sizeBuilder := by kernel_rfl
  liesBuilder := by kernel_rfl
  t5 := Tryz.underlying5
  a5 := Tryz.isAgg5
  z5 := Tryz.sizeOf5
  v5 := Tryz.zeroValue5
  infoByte := by kernel_rfl
  cellsByte := by kernel_rfl
  sizeByte := by kernel_rfl
  neB5 := by decide }
open Go.RowKit in
/-- (*strings.Builder).grow (no doc but "grow copies the buffer to a new, larger buffer so that there are at least n bytes of capacity beyond len(b.buf)."): AT A BUILDER WITHOUT A BUFFER: a new row of whatever bytes for its buffer, none of them its own yet. Three draws. (LAID: no walk: one application.) -/
theorem Tryz.Builder_grow_fresh (B b n : Nat) (w : World) (hB : B ≤ b) (hbk : w.heap[b]? = some (.cells #[.pointer (some ⟨b, 0, none⟩), .slice none 0 0] 74 (0, 0))) (hBw : B ≤ w.heap.size) (hn : n ≤ 281474976710656) :
    Calls Tryz.prog 54 #[.pointer (some ⟨b, 0, none⟩), .int .i64 n] w fun e w' => e = .returned (.tuple #[]) ∧ (Lib.BuilderAt 74 5 B b (.pointer (some ⟨b, 0, none⟩)) [] w' ∧ Below B w w') := Any.Builder_grow_fresh Tryz.lays241 Tryz.Builder_Extra_241 B b n w hB hbk hBw hn
def Tryz.lays165_ren : Go.Shelf.Ren := ⟨fun | 165 => 36 | 240 => 53 | 241 => 54 | 276 => 77 | 277 => 78 | n => n, fun | 70 => 72 | 3 => 3 | 0 => 0 | 4 => 4 | 9 => 9 | 20 => 20 | 72 => 74 | 37 => 43 | 164 => 134 | 5 => 5 | n => n, fun | n => n⟩
theorem Tryz.lays165 : Go.Proofs.Lays.n165 Tryz.prog Tryz.lays165_ren := {
  mixed := by kernel_rfl
  f165 := Tryz.func36.trans (congrArg some (by kernel_rfl))
  f240 := Tryz.func53.trans (congrArg some (by kernel_rfl))
  f241 := Tryz.func54.trans (congrArg some (by kernel_rfl))
  f276 := Tryz.func77.trans (congrArg some (by kernel_rfl))
  f277 := Tryz.func78.trans (congrArg some (by kernel_rfl))
  t0 := Tryz.underlying0
  a0 := Tryz.isAgg0
  z0 := Tryz.sizeOf0
  v0 := Tryz.zeroValue0
  t3 := Tryz.underlying3
  a3 := Tryz.isAgg3
  z3 := Tryz.sizeOf3
  v3 := Tryz.zeroValue3
  t4 := Tryz.underlying4
  a4 := Tryz.isAgg4
  z4 := Tryz.sizeOf4
  v4 := Tryz.zeroValue4
  t9 := Tryz.underlying9
  a9 := Tryz.isAgg9
  z9 := Tryz.sizeOf9
  v9 := Tryz.zeroValue9
  t20 := Tryz.underlying20
  a20 := Tryz.isAgg20
  z20 := Tryz.sizeOf20
  v20 := Tryz.zeroValue20
  t37 := Tryz.underlying43
  a37 := Tryz.isAgg43
  z37 := Tryz.sizeOf43
  v37 := Tryz.zeroValue43
  t70 := Tryz.underlying72
  a70 := Tryz.isAgg72
  z70 := Tryz.sizeOf72
  v70 := Tryz.zeroValue72
  t72 := Tryz.underlying74
  a72 := Tryz.isAgg74
  z72 := Tryz.sizeOf74
  v72 := Tryz.zeroValue74
  t164 := Tryz.underlying134
  a164 := Tryz.isAgg134
  z164 := Tryz.sizeOf134
  v164 := Tryz.zeroValue134 }
theorem Tryz.Builder_Extra_165 : Builder.Extra Tryz.prog Tryz.lays165_ren := {
  sizeBuilder := by kernel_rfl
  liesBuilder := by kernel_rfl
  t5 := Tryz.underlying5
  a5 := Tryz.isAgg5
  z5 := Tryz.sizeOf5
  v5 := Tryz.zeroValue5
  infoByte := by kernel_rfl
  cellsByte := by kernel_rfl
  sizeByte := by kernel_rfl
  neB5 := by decide }
open Go.RowKit in
/-- (*strings.Builder).Grow AT A BUILDER THAT HAS NOT BEEN WRITTEN ('var b strings.Builder; b.Grow(n)'): "Grow grows b's capacity, if necessary, to guarantee space for another n bytes.": it holds no byte behind it as before it. (LAID: no walk: one application.) -/
theorem Tryz.Builder_Grow_fresh (B b n : Nat) (w : World) (hB : B ≤ b) (hbk : w.heap[b]? = some (.cells #[.pointer none, .slice none 0 0] 74 (0, 0))) (hBw : B ≤ w.heap.size) (hn : n ≤ 281474976710656) :
    Calls Tryz.prog 36 #[.pointer (some ⟨b, 0, none⟩), .int .i64 n] w fun e w' => e = .returned (.tuple #[]) ∧ (Lib.BuilderAt 74 5 B b (.pointer (some ⟨b, 0, none⟩)) [] w' ∧ Below B w w') := Any.Builder_Grow_fresh Tryz.lays165 Tryz.Builder_Extra_165 B b n w hB hbk hBw hn
def Tryz.lays158_ren : Go.Shelf.Ren := ⟨fun | 158 => 48 | 165 => 36 | 166 => 37 | 167 => 69 | 169 => 38 | 230 => 70 | 203 => 71 | 240 => 53 | 241 => 54 | 197 => 91 | 118 => 92 | 168 => 93 | 270 => 94 | 262 => 95 | 276 => 77 | 277 => 78 | 260 => 105 | 242 => 90 | 313 => 106 | 278 => 104 | 274 => 108 | 275 => 109 | n => n, fun | 9 => 9 | 4 => 4 | 3 => 3 | 5 => 5 | 72 => 74 | 0 => 0 | 76 => 70 | 75 => 45 | 107 => 127 | 70 => 72 | 20 => 20 | 37 => 43 | 127 => 105 | 21 => 21 | 105 => 152 | 164 => 134 | 162 => 165 | 203 => 163 | 119 => 168 | 46 => 142 | 139 => 171 | 138 => 170 | 51 => 87 | 160 => 172 | 208 => 178 | 206 => 176 | 80 => 54 | n => n, fun | 13 => 8 | 3 => 11 | 4 => 12 | n => n⟩
theorem Tryz.lays158 : Go.Proofs.Lays.n158 Tryz.prog Tryz.lays158_ren := {
  mixed := by kernel_rfl
  f118 := Tryz.func92.trans (congrArg some (by kernel_rfl))
  f158 := Tryz.func48.trans (congrArg some (by kernel_rfl))
  f165 := Tryz.func36.trans (congrArg some (by kernel_rfl))
  f166 := Tryz.func37.trans (congrArg some (by kernel_rfl))
  f167 := Tryz.func69.trans (congrArg some (by kernel_rfl))
  f168 := Tryz.func93.trans (congrArg some (by kernel_rfl))
  f169 := Tryz.func38.trans (congrArg some (by kernel_rfl))
  f197 := Tryz.func91.trans (congrArg some (by kernel_rfl))
  f203 := Tryz.func71.trans (congrArg some (by kernel_rfl))
  f230 := Tryz.func70.trans (congrArg some (by kernel_rfl))
  f240 := Tryz.func53.trans (congrArg some (by kernel_rfl))
  f241 := Tryz.func54.trans (congrArg some (by kernel_rfl))
  f242 := Tryz.func90.trans (congrArg some (by kernel_rfl))
  f260 := Tryz.func105.trans (congrArg some (by kernel_rfl))
  f262 := Tryz.func95.trans (congrArg some (by kernel_rfl))
  f270 := Tryz.func94.trans (congrArg some (by kernel_rfl))
  f274 := Tryz.func108.trans (congrArg some (by kernel_rfl))
  f275 := Tryz.func109.trans (congrArg some (by kernel_rfl))
  f276 := Tryz.func77.trans (congrArg some (by kernel_rfl))
  f277 := Tryz.func78.trans (congrArg some (by kernel_rfl))
  f278 := Tryz.func104.trans (congrArg some (by kernel_rfl))
  f313 := Tryz.func106.trans (congrArg some (by kernel_rfl))
  t0 := Tryz.underlying0
  a0 := Tryz.isAgg0
  z0 := Tryz.sizeOf0
  v0 := Tryz.zeroValue0
  t3 := Tryz.underlying3
  a3 := Tryz.isAgg3
  z3 := Tryz.sizeOf3
  v3 := Tryz.zeroValue3
  t4 := Tryz.underlying4
  a4 := Tryz.isAgg4
  z4 := Tryz.sizeOf4
  v4 := Tryz.zeroValue4
  t5 := Tryz.underlying5
  a5 := Tryz.isAgg5
  z5 := Tryz.sizeOf5
  v5 := Tryz.zeroValue5
  t9 := Tryz.underlying9
  a9 := Tryz.isAgg9
  z9 := Tryz.sizeOf9
  v9 := Tryz.zeroValue9
  t20 := Tryz.underlying20
  a20 := Tryz.isAgg20
  z20 := Tryz.sizeOf20
  v20 := Tryz.zeroValue20
  t21 := Tryz.underlying21
  a21 := Tryz.isAgg21
  z21 := Tryz.sizeOf21
  v21 := Tryz.zeroValue21
  t37 := Tryz.underlying43
  a37 := Tryz.isAgg43
  z37 := Tryz.sizeOf43
  v37 := Tryz.zeroValue43
  t46 := Tryz.underlying142
  a46 := Tryz.isAgg142
  z46 := Tryz.sizeOf142
  v46 := Tryz.zeroValue142
  t51 := Tryz.underlying87
  a51 := Tryz.isAgg87
  z51 := Tryz.sizeOf87
  v51 := Tryz.zeroValue87
  t70 := Tryz.underlying72
  a70 := Tryz.isAgg72
  z70 := Tryz.sizeOf72
  v70 := Tryz.zeroValue72
  t72 := Tryz.underlying74
  a72 := Tryz.isAgg74
  z72 := Tryz.sizeOf74
  v72 := Tryz.zeroValue74
  t75 := Tryz.underlying45
  a75 := Tryz.isAgg45
  z75 := Tryz.sizeOf45
  v75 := Tryz.zeroValue45
  t76 := Tryz.underlying70
  a76 := Tryz.isAgg70
  z76 := Tryz.sizeOf70
  v76 := Tryz.zeroValue70
  t105 := Tryz.underlying152
  a105 := Tryz.isAgg152
  z105 := Tryz.sizeOf152
  v105 := Tryz.zeroValue152
  t107 := Tryz.underlying127
  a107 := Tryz.isAgg127
  z107 := Tryz.sizeOf127
  v107 := Tryz.zeroValue127
  t119 := Tryz.underlying168
  a119 := Tryz.isAgg168
  z119 := Tryz.sizeOf168
  t127 := Tryz.underlying105
  a127 := Tryz.isAgg105
  z127 := Tryz.sizeOf105
  v127 := Tryz.zeroValue105
  t138 := Tryz.underlying170
  a138 := Tryz.isAgg170
  z138 := Tryz.sizeOf170
  v138 := Tryz.zeroValue170
  t139 := Tryz.underlying171
  a139 := Tryz.isAgg171
  z139 := Tryz.sizeOf171
  v139 := Tryz.zeroValue171
  t160 := Tryz.underlying172
  a160 := Tryz.isAgg172
  z160 := Tryz.sizeOf172
  v160 := Tryz.zeroValue172
  t162 := Tryz.underlying165
  a162 := Tryz.isAgg165
  z162 := Tryz.sizeOf165
  v162 := Tryz.zeroValue165
  t164 := Tryz.underlying134
  a164 := Tryz.isAgg134
  z164 := Tryz.sizeOf134
  v164 := Tryz.zeroValue134
  t203 := Tryz.underlying163
  a203 := Tryz.isAgg163
  z203 := Tryz.sizeOf163
  v203 := Tryz.zeroValue163
  t206 := Tryz.underlying176
  a206 := Tryz.isAgg176
  z206 := Tryz.sizeOf176
  v206 := Tryz.zeroValue176
  t208 := Tryz.underlying178
  a208 := Tryz.isAgg178
  z208 := Tryz.sizeOf178
  v208 := Tryz.zeroValue178
  g3 := by kernel_rfl
  g4 := by kernel_rfl
  g13 := by kernel_rfl }
theorem Tryz.Builder_Extra_158 : Builder.Extra Tryz.prog Tryz.lays158_ren := {
  sizeBuilder := by kernel_rfl
  liesBuilder := by kernel_rfl
  t5 := Tryz.underlying5
  a5 := Tryz.isAgg5
  z5 := Tryz.sizeOf5
  v5 := Tryz.zeroValue5
  infoByte := by kernel_rfl
  cellsByte := by kernel_rfl
  sizeByte := by kernel_rfl
  neB5 := by decide }
open Go.RowKit in
/-- strings.ToUpper: "ToUpper returns s with all Unicode letters mapped to their upper case.": ON ASCII TEXT OF AT MOST 2^47 BYTES. Below the heap's end the world is as it was: where a letter turns, the call makes a builder and its buffer. (LAID: no walk: one application.) -/
theorem Tryz.strings_ToUpper_ascii (s : ByteArray) (w : World) (hs : s.size ≤ 140737488355328) (hascii : ∀ (j : Nat) (b : UInt8), s.data.toList[j]? = some b → b.toNat < 128) :
    Calls Tryz.prog 48 #[.string s] w fun e w' => e = .returned (.string ⟨(Lib.toUpperA s.data.toList).toArray⟩) ∧ Below w.heap.size w w' := Any.strings_ToUpper_ascii Tryz.lays158 Tryz.Builder_Extra_158 s w hs hascii
def Tryz.lays156_ren : Go.Shelf.Ren := ⟨fun | 156 => 23 | 165 => 36 | 166 => 37 | 169 => 38 | 240 => 53 | 241 => 54 | 276 => 77 | 277 => 78 | n => n, fun | 31 => 23 | 9 => 9 | 3 => 3 | 4 => 4 | 0 => 0 | 20 => 20 | 72 => 74 | 76 => 70 | 70 => 72 | 37 => 43 | 75 => 45 | 127 => 105 | 164 => 134 | 5 => 5 | 80 => 54 | n => n, fun | n => n⟩
theorem Tryz.lays156 : Go.Proofs.Lays.n156 Tryz.prog Tryz.lays156_ren := {
  mixed := by kernel_rfl
  f156 := Tryz.func23.trans (congrArg some (by kernel_rfl))
  f165 := Tryz.func36.trans (congrArg some (by kernel_rfl))
  f166 := Tryz.func37.trans (congrArg some (by kernel_rfl))
  f169 := Tryz.func38.trans (congrArg some (by kernel_rfl))
  f240 := Tryz.func53.trans (congrArg some (by kernel_rfl))
  f241 := Tryz.func54.trans (congrArg some (by kernel_rfl))
  f276 := Tryz.func77.trans (congrArg some (by kernel_rfl))
  f277 := Tryz.func78.trans (congrArg some (by kernel_rfl))
  t0 := Tryz.underlying0
  a0 := Tryz.isAgg0
  z0 := Tryz.sizeOf0
  v0 := Tryz.zeroValue0
  t3 := Tryz.underlying3
  a3 := Tryz.isAgg3
  z3 := Tryz.sizeOf3
  v3 := Tryz.zeroValue3
  t4 := Tryz.underlying4
  a4 := Tryz.isAgg4
  z4 := Tryz.sizeOf4
  v4 := Tryz.zeroValue4
  t9 := Tryz.underlying9
  a9 := Tryz.isAgg9
  z9 := Tryz.sizeOf9
  v9 := Tryz.zeroValue9
  t20 := Tryz.underlying20
  a20 := Tryz.isAgg20
  z20 := Tryz.sizeOf20
  v20 := Tryz.zeroValue20
  t31 := Tryz.underlying23
  a31 := Tryz.isAgg23
  z31 := Tryz.sizeOf23
  v31 := Tryz.zeroValue23
  t37 := Tryz.underlying43
  a37 := Tryz.isAgg43
  z37 := Tryz.sizeOf43
  v37 := Tryz.zeroValue43
  t70 := Tryz.underlying72
  a70 := Tryz.isAgg72
  z70 := Tryz.sizeOf72
  v70 := Tryz.zeroValue72
  t72 := Tryz.underlying74
  a72 := Tryz.isAgg74
  z72 := Tryz.sizeOf74
  v72 := Tryz.zeroValue74
  t75 := Tryz.underlying45
  a75 := Tryz.isAgg45
  z75 := Tryz.sizeOf45
  v75 := Tryz.zeroValue45
  t76 := Tryz.underlying70
  a76 := Tryz.isAgg70
  z76 := Tryz.sizeOf70
  v76 := Tryz.zeroValue70
  t127 := Tryz.underlying105
  a127 := Tryz.isAgg105
  z127 := Tryz.sizeOf105
  v127 := Tryz.zeroValue105
  t164 := Tryz.underlying134
  a164 := Tryz.isAgg134
  z164 := Tryz.sizeOf134
  v164 := Tryz.zeroValue134 }
theorem Tryz.Builder_Extra_156 : Builder.Extra Tryz.prog Tryz.lays156_ren := {
  sizeBuilder := by kernel_rfl
  liesBuilder := by kernel_rfl
  t5 := Tryz.underlying5
  a5 := Tryz.isAgg5
  z5 := Tryz.sizeOf5
  v5 := Tryz.zeroValue5
  infoByte := by kernel_rfl
  cellsByte := by kernel_rfl
  sizeByte := by kernel_rfl
  neB5 := by decide }
open Go.RowKit in
/-- No element: the empty string; the world is as it was. (Whatever the slice's address and capacity: a nil slice too.) (LAID: no walk: one application.) -/
theorem Tryz.strings_Join_none (a : Option Addr) (c : Nat) (sep : ByteArray) (w : World) :
    Calls Tryz.prog 23 #[.slice a 0 c, .string sep] w fun e w' => e = .returned (.string ⟨#[]⟩) ∧ w' = w := Any.strings_Join_none Tryz.lays156 Tryz.Builder_Extra_156 a c sep w
open Go.RowKit in
/-- strings.Join: "Join concatenates the elements of its first argument to create a single string. The separator string sep is placed between elements in the resulting string.": HOWEVER MANY ELEMENTS. Below the heap's end the world is as it was. (LAID: no walk: one application.) -/
theorem Tryz.strings_Join (bk o c : Nat) (xs : List ByteArray) (sep : ByteArray) (w : World) (hcells : ∀ (j : Nat) x, xs[j]? = some x → w.cell? ⟨bk, o + j, none⟩ = some (.string x)) (hbk : bk < w.heap.size) (hN : xs.length ≤ 140737488355328) (hcap : xs.length ≤ c) (hlen : (Lib.join (xs.map (·.data.toList)) sep.data.toList).length ≤ 140737488355328) :
    Calls Tryz.prog 23 #[.slice (some ⟨bk, o, none⟩) xs.length c, .string sep] w fun e w' => e = .returned (.string ⟨(Lib.join (xs.map (·.data.toList)) sep.data.toList).toArray⟩) ∧ Below w.heap.size w w' := Any.strings_Join Tryz.lays156 Tryz.Builder_Extra_156 bk o c xs sep w hcells hbk hN hcap hlen
def Tryz.lays118_ren : Go.Shelf.Ren := ⟨fun | 118 => 92 | n => n, fun | 21 => 21 | 3 => 3 | 4 => 4 | n => n, fun | n => n⟩
theorem Tryz.lays118 : Go.Proofs.Lays.n118 Tryz.prog Tryz.lays118_ren := {
  mixed := by kernel_rfl
  f118 := Tryz.func92.trans (congrArg some (by kernel_rfl))
  t3 := Tryz.underlying3
  a3 := Tryz.isAgg3
  z3 := Tryz.sizeOf3
  v3 := Tryz.zeroValue3
  t4 := Tryz.underlying4
  a4 := Tryz.isAgg4
  z4 := Tryz.sizeOf4
  v4 := Tryz.zeroValue4
  t21 := Tryz.underlying21
  a21 := Tryz.isAgg21
  z21 := Tryz.sizeOf21
  v21 := Tryz.zeroValue21 }
/-- utf8.RuneLen: "RuneLen returns the number of bytes in the UTF-8 encoding of the rune. It returns -1 if the rune is not a valid value to encode in UTF-8.": IT RETURNS 'Lib.runeLen r'; the world is as it was. (LAID: no walk: one application.) -/
theorem Tryz.utf8_RuneLen (r : Int) (w : World) :
    Calls Tryz.prog 92 #[.int .i32 r] w fun e w' => e = .returned (.int .i64 (Lib.runeLen r)) ∧ w' = w := Any.utf8_RuneLen Tryz.lays118 r w
def Tryz.lays119_ren : Go.Shelf.Ren := ⟨fun | 119 => 146 | n => n, fun | 21 => 21 | 4 => 4 | n => n, fun | n => n⟩
theorem Tryz.lays119 : Go.Proofs.Lays.n119 Tryz.prog Tryz.lays119_ren := {
  mixed := by kernel_rfl
  f119 := Tryz.func146.trans (congrArg some (by kernel_rfl))
  t4 := Tryz.underlying4
  a4 := Tryz.isAgg4
  z4 := Tryz.sizeOf4
  v4 := Tryz.zeroValue4
  t21 := Tryz.underlying21
  a21 := Tryz.isAgg21
  z21 := Tryz.sizeOf21
  v21 := Tryz.zeroValue21 }
/-- utf8.ValidRune: "ValidRune reports whether r can be legally encoded as UTF-8. Code points that are out of range or a surrogate half are illegal.": IT RETURNS 'Lib.validRune r'; the world is as it was. (LAID: no walk: one application.) -/
theorem Tryz.utf8_ValidRune (r : Int) (w : World) :
    Calls Tryz.prog 146 #[.int .i32 r] w fun e w' => e = .returned (.bool (Lib.validRune r)) ∧ w' = w := Any.utf8_ValidRune Tryz.lays119 r w
def Tryz.lays244_ren : Go.Shelf.Ren := ⟨fun | 244 => 51 | 247 => 72 | 287 => 84 | 321 => 99 | 322 => 100 | n => n, fun | 9 => 9 | 3 => 3 | 75 => 45 | 4 => 4 | 5 => 5 | 167 => 128 | 37 => 43 | 0 => 0 | 85 => 129 | 2 => 2 | 53 => 107 | 175 => 116 | 46 => 142 | 21 => 21 | 80 => 54 | n => n, fun | n => n⟩
theorem Tryz.lays244 : Go.Proofs.Lays.n244 Tryz.prog Tryz.lays244_ren := {
  mixed := by kernel_rfl
  f244 := Tryz.func51.trans (congrArg some (by kernel_rfl))
  f247 := Tryz.func72.trans (congrArg some (by kernel_rfl))
  f287 := Tryz.func84.trans (congrArg some (by kernel_rfl))
  f321 := Tryz.func99.trans (congrArg some (by kernel_rfl))
  f322 := Tryz.func100.trans (congrArg some (by kernel_rfl))
  t0 := Tryz.underlying0
  a0 := Tryz.isAgg0
  z0 := Tryz.sizeOf0
  v0 := Tryz.zeroValue0
  t2 := Tryz.underlying2
  a2 := Tryz.isAgg2
  z2 := Tryz.sizeOf2
  v2 := Tryz.zeroValue2
  t3 := Tryz.underlying3
  a3 := Tryz.isAgg3
  z3 := Tryz.sizeOf3
  v3 := Tryz.zeroValue3
  t4 := Tryz.underlying4
  a4 := Tryz.isAgg4
  z4 := Tryz.sizeOf4
  v4 := Tryz.zeroValue4
  t5 := Tryz.underlying5
  a5 := Tryz.isAgg5
  z5 := Tryz.sizeOf5
  v5 := Tryz.zeroValue5
  t9 := Tryz.underlying9
  a9 := Tryz.isAgg9
  z9 := Tryz.sizeOf9
  v9 := Tryz.zeroValue9
  t21 := Tryz.underlying21
  a21 := Tryz.isAgg21
  z21 := Tryz.sizeOf21
  v21 := Tryz.zeroValue21
  t37 := Tryz.underlying43
  a37 := Tryz.isAgg43
  z37 := Tryz.sizeOf43
  v37 := Tryz.zeroValue43
  t46 := Tryz.underlying142
  a46 := Tryz.isAgg142
  z46 := Tryz.sizeOf142
  v46 := Tryz.zeroValue142
  t53 := Tryz.underlying107
  a53 := Tryz.isAgg107
  z53 := Tryz.sizeOf107
  v53 := Tryz.zeroValue107
  t75 := Tryz.underlying45
  a75 := Tryz.isAgg45
  z75 := Tryz.sizeOf45
  v75 := Tryz.zeroValue45
  t85 := Tryz.underlying129
  a85 := Tryz.isAgg129
  z85 := Tryz.sizeOf129
  v85 := Tryz.zeroValue129
  t167 := Tryz.underlying128
  a167 := Tryz.isAgg128
  z167 := Tryz.sizeOf128
  v167 := Tryz.zeroValue128
  t175 := Tryz.underlying116
  a175 := Tryz.isAgg116
  z175 := Tryz.sizeOf116
  v175 := Tryz.zeroValue116 }
open Go.RowKit in
/-- internal/strconv.Atoi, at a decimal numeral of at most 18 bytes: ITS VALUE, AND NO ERROR. The world behind the call: the one new row that '[]byte(s)' lays. (LAID: no walk: one application.) -/
theorem Tryz.internal_strconv_Atoi (s : ByteArray) (n : Int) (hl : s.size ≤ 18) (h : Lib.atoi s.data.toList = some n) (w : World) :
    Calls Tryz.prog 51 #[.string s] w fun e w' => e = .returned (.tuple #[.int .i64 n, .nilIface]) ∧ ∃ t, w' = Lib.bytesWorld w 5 t := Any.internal_strconv_Atoi Tryz.lays244 s n hl h w
def Tryz.lays172_ren : Go.Shelf.Ren := ⟨fun | 172 => 35 | 244 => 51 | 245 => 52 | 247 => 72 | 279 => 73 | 280 => 74 | 281 => 75 | 282 => 76 | 287 => 84 | 316 => 96 | 171 => 20 | 205 => 26 | 321 => 99 | 322 => 100 | 243 => 24 | 246 => 39 | 283 => 55 | 284 => 56 | 285 => 57 | 286 => 58 | 129 => 80 | 317 => 79 | 318 => 81 | 319 => 82 | 320 => 83 | 337 => 97 | 338 => 98 | n => n, fun | 9 => 9 | 3 => 3 | 75 => 45 | 76 => 70 | 4 => 4 | 5 => 5 | 167 => 128 | 37 => 43 | 0 => 0 | 85 => 129 | 2 => 2 | 168 => 131 | 53 => 107 | 175 => 116 | 46 => 142 | 210 => 158 | 127 => 105 | 145 => 79 | 143 => 77 | 21 => 21 | 171 => 106 | 173 => 110 | 212 => 139 | 51 => 87 | 20 => 20 | 213 => 140 | 232 => 166 | 233 => 167 | 80 => 54 | n => n, fun | 15 => 2 | 16 => 3 | 17 => 1 | 18 => 9 | 19 => 10 | n => n⟩
theorem Tryz.lays172 : Go.Proofs.Lays.n172 Tryz.prog Tryz.lays172_ren := {
  mixed := by kernel_rfl
  f129 := Tryz.func80.trans (congrArg some (by kernel_rfl))
  f171 := Tryz.func20.trans (congrArg some (by kernel_rfl))
  f172 := Tryz.func35.trans (congrArg some (by kernel_rfl))
  f205 := Tryz.func26.trans (congrArg some (by kernel_rfl))
  f243 := Tryz.func24.trans (congrArg some (by kernel_rfl))
  f244 := Tryz.func51.trans (congrArg some (by kernel_rfl))
  f245 := Tryz.func52.trans (congrArg some (by kernel_rfl))
  f246 := Tryz.func39.trans (congrArg some (by kernel_rfl))
  f247 := Tryz.func72.trans (congrArg some (by kernel_rfl))
  f279 := Tryz.func73.trans (congrArg some (by kernel_rfl))
  f280 := Tryz.func74.trans (congrArg some (by kernel_rfl))
  f281 := Tryz.func75.trans (congrArg some (by kernel_rfl))
  f282 := Tryz.func76.trans (congrArg some (by kernel_rfl))
  f283 := Tryz.func55.trans (congrArg some (by kernel_rfl))
  f284 := Tryz.func56.trans (congrArg some (by kernel_rfl))
  f285 := Tryz.func57.trans (congrArg some (by kernel_rfl))
  f286 := Tryz.func58.trans (congrArg some (by kernel_rfl))
  f287 := Tryz.func84.trans (congrArg some (by kernel_rfl))
  f316 := Tryz.func96.trans (congrArg some (by kernel_rfl))
  f317 := Tryz.func79.trans (congrArg some (by kernel_rfl))
  f318 := Tryz.func81.trans (congrArg some (by kernel_rfl))
  f319 := Tryz.func82.trans (congrArg some (by kernel_rfl))
  f320 := Tryz.func83.trans (congrArg some (by kernel_rfl))
  f321 := Tryz.func99.trans (congrArg some (by kernel_rfl))
  f322 := Tryz.func100.trans (congrArg some (by kernel_rfl))
  f337 := Tryz.func97.trans (congrArg some (by kernel_rfl))
  f338 := Tryz.func98.trans (congrArg some (by kernel_rfl))
  t0 := Tryz.underlying0
  a0 := Tryz.isAgg0
  z0 := Tryz.sizeOf0
  v0 := Tryz.zeroValue0
  t2 := Tryz.underlying2
  a2 := Tryz.isAgg2
  z2 := Tryz.sizeOf2
  v2 := Tryz.zeroValue2
  t3 := Tryz.underlying3
  a3 := Tryz.isAgg3
  z3 := Tryz.sizeOf3
  v3 := Tryz.zeroValue3
  t4 := Tryz.underlying4
  a4 := Tryz.isAgg4
  z4 := Tryz.sizeOf4
  v4 := Tryz.zeroValue4
  t5 := Tryz.underlying5
  a5 := Tryz.isAgg5
  z5 := Tryz.sizeOf5
  v5 := Tryz.zeroValue5
  t9 := Tryz.underlying9
  a9 := Tryz.isAgg9
  z9 := Tryz.sizeOf9
  v9 := Tryz.zeroValue9
  t20 := Tryz.underlying20
  a20 := Tryz.isAgg20
  z20 := Tryz.sizeOf20
  v20 := Tryz.zeroValue20
  t21 := Tryz.underlying21
  a21 := Tryz.isAgg21
  z21 := Tryz.sizeOf21
  v21 := Tryz.zeroValue21
  t37 := Tryz.underlying43
  a37 := Tryz.isAgg43
  z37 := Tryz.sizeOf43
  v37 := Tryz.zeroValue43
  t46 := Tryz.underlying142
  a46 := Tryz.isAgg142
  z46 := Tryz.sizeOf142
  v46 := Tryz.zeroValue142
  t51 := Tryz.underlying87
  a51 := Tryz.isAgg87
  z51 := Tryz.sizeOf87
  v51 := Tryz.zeroValue87
  t53 := Tryz.underlying107
  a53 := Tryz.isAgg107
  z53 := Tryz.sizeOf107
  v53 := Tryz.zeroValue107
  t75 := Tryz.underlying45
  a75 := Tryz.isAgg45
  z75 := Tryz.sizeOf45
  v75 := Tryz.zeroValue45
  t76 := Tryz.underlying70
  a76 := Tryz.isAgg70
  z76 := Tryz.sizeOf70
  v76 := Tryz.zeroValue70
  t85 := Tryz.underlying129
  a85 := Tryz.isAgg129
  z85 := Tryz.sizeOf129
  v85 := Tryz.zeroValue129
  t127 := Tryz.underlying105
  a127 := Tryz.isAgg105
  z127 := Tryz.sizeOf105
  v127 := Tryz.zeroValue105
  t143 := Tryz.underlying77
  a143 := Tryz.isAgg77
  z143 := Tryz.sizeOf77
  v143 := Tryz.zeroValue77
  t145 := Tryz.underlying79
  a145 := Tryz.isAgg79
  z145 := Tryz.sizeOf79
  v145 := Tryz.zeroValue79
  t167 := Tryz.underlying128
  a167 := Tryz.isAgg128
  z167 := Tryz.sizeOf128
  v167 := Tryz.zeroValue128
  t168 := Tryz.underlying131
  a168 := Tryz.isAgg131
  z168 := Tryz.sizeOf131
  v168 := Tryz.zeroValue131
  t171 := Tryz.underlying106
  a171 := Tryz.isAgg106
  z171 := Tryz.sizeOf106
  v171 := Tryz.zeroValue106
  t173 := Tryz.underlying110
  a173 := Tryz.isAgg110
  z173 := Tryz.sizeOf110
  v173 := Tryz.zeroValue110
  t175 := Tryz.underlying116
  a175 := Tryz.isAgg116
  z175 := Tryz.sizeOf116
  v175 := Tryz.zeroValue116
  t210 := Tryz.underlying158
  a210 := Tryz.isAgg158
  z210 := Tryz.sizeOf158
  v210 := Tryz.zeroValue158
  t212 := Tryz.underlying139
  a212 := Tryz.isAgg139
  z212 := Tryz.sizeOf139
  v212 := Tryz.zeroValue139
  t213 := Tryz.underlying140
  a213 := Tryz.isAgg140
  z213 := Tryz.sizeOf140
  t232 := Tryz.underlying166
  a232 := Tryz.isAgg166
  z232 := Tryz.sizeOf166
  v232 := Tryz.zeroValue166
  t233 := Tryz.underlying167
  a233 := Tryz.isAgg167
  z233 := Tryz.sizeOf167
  v233 := Tryz.zeroValue167
  g15 := by kernel_rfl
  g16 := by kernel_rfl
  g17 := by kernel_rfl
  g18 := by kernel_rfl
  g19 := by kernel_rfl }
open Go.RowKit in
/-- strconv.Atoi: "Atoi is equivalent to ParseInt(s, 10, 0), converted to type int.": AT A DECIMAL NUMERAL OF AT MOST 18 BYTES: its value, and a nil error. The world behind the call: the one new row that the library's '[]byte(s)' lays. (LAID: no walk: one application.) -/
theorem Tryz.strconv_Atoi (s : ByteArray) (n : Int) (hl : s.size ≤ 18) (h : Lib.atoi s.data.toList = some n) (w : World) :
    Calls Tryz.prog 35 #[.string s] w fun e w' => e = .returned (.tuple #[.int .i64 n, .nilIface]) ∧ ∃ t, w' = Lib.bytesWorld w 5 t := Any.strconv_Atoi Tryz.lays172 s n hl h w
def Tryz.lays129_ren : Go.Shelf.Ren := ⟨fun | 129 => 80 | n => n, fun | 53 => 107 | 3 => 3 | 4 => 4 | 46 => 142 | 5 => 5 | 9 => 9 | n => n, fun | n => n⟩
theorem Tryz.lays129 : Go.Proofs.Lays.n129 Tryz.prog Tryz.lays129_ren := {
  mixed := by kernel_rfl
  f129 := Tryz.func80.trans (congrArg some (by kernel_rfl))
  t3 := Tryz.underlying3
  a3 := Tryz.isAgg3
  z3 := Tryz.sizeOf3
  v3 := Tryz.zeroValue3
  t4 := Tryz.underlying4
  a4 := Tryz.isAgg4
  z4 := Tryz.sizeOf4
  v4 := Tryz.zeroValue4
  t5 := Tryz.underlying5
  a5 := Tryz.isAgg5
  z5 := Tryz.sizeOf5
  v5 := Tryz.zeroValue5
  t9 := Tryz.underlying9
  a9 := Tryz.isAgg9
  z9 := Tryz.sizeOf9
  v9 := Tryz.zeroValue9
  t46 := Tryz.underlying142
  a46 := Tryz.isAgg142
  z46 := Tryz.sizeOf142
  v46 := Tryz.zeroValue142
  t53 := Tryz.underlying107
  a53 := Tryz.isAgg107
  z53 := Tryz.sizeOf107
  v53 := Tryz.zeroValue107 }
/-- bits.Len64: "Len64 returns the minimum number of bits required to represent x; the result is 0 for x == 0.": IT RETURNS 'Lib.bitLen x'; the world is as it was. ('h0', 'h1': x is a uint64.) (LAID: no walk: one application.) -/
theorem Tryz.bits_Len64 (x : Int) (w : World) (h0 : 0 ≤ x) (h1 : x ≤ 18446744073709551615) :
    Calls Tryz.prog 80 #[.int .u64 x] w fun e w' => e = .returned (.int .i64 (Lib.bitLen x.toNat)) ∧ w' = w := Any.bits_Len64 Tryz.lays129 x w h0 h1
def Tryz.lays317_ren : Go.Shelf.Ren := ⟨fun | 317 => 79 | n => n, fun | 3 => 3 | 46 => 142 | n => n, fun | n => n⟩
theorem Tryz.lays317 : Go.Proofs.Lays.n317 Tryz.prog Tryz.lays317_ren := {
  mixed := by kernel_rfl
  f317 := Tryz.func79.trans (congrArg some (by kernel_rfl))
  t3 := Tryz.underlying3
  a3 := Tryz.isAgg3
  z3 := Tryz.sizeOf3
  v3 := Tryz.zeroValue3
  t46 := Tryz.underlying142
  a46 := Tryz.isAgg142
  z46 := Tryz.sizeOf142
  v46 := Tryz.zeroValue142 }
open Go.Lib in
/-- internal/strconv.log10Pow2: "log10Pow2(x) returns ⌊log₁₀ 2**x⌋ = ⌊x * log₁₀ 2⌋.": '(x * 78913) >> 18', at an x up to 64 (a length in bits). The world is as it was. (LAID: no walk: one application.) -/
theorem Tryz.internal_strconv_log10Pow2 (x : Nat) (h : x ≤ 64) (w : World) :
    Calls Tryz.prog 79 #[.int .i64 x] w fun e w' => e = .returned (.int .i64 (Lib.l10 x)) ∧ w' = w := Any.internal_strconv_log10Pow2 Tryz.lays317 x h w
def Tryz.lays318_ren : Go.Shelf.Ren := ⟨fun | 318 => 81 | n => n, fun | 3 => 3 | 4 => 4 | n => n, fun | n => n⟩
theorem Tryz.lays318 : Go.Proofs.Lays.n318 Tryz.prog Tryz.lays318_ren := {
  mixed := by kernel_rfl
  f318 := Tryz.func81.trans (congrArg some (by kernel_rfl))
  t3 := Tryz.underlying3
  a3 := Tryz.isAgg3
  z3 := Tryz.sizeOf3
  v3 := Tryz.zeroValue3
  t4 := Tryz.underlying4
  a4 := Tryz.isAgg4
  z4 := Tryz.sizeOf4
  v4 := Tryz.zeroValue4 }
open Go.Lib in
/-- internal/strconv.bool2: "bool2 converts b to an integer: 1 for true, 0 for false." The world is as it was. (LAID: no walk: one application.) -/
theorem Tryz.internal_strconv_bool2_int (b : Bool) (w : World) :
    Calls Tryz.prog 81 #[.bool b] w fun e w' => e = .returned (.int .i64 (if b then 1 else 0)) ∧ w' = w := Any.internal_strconv_bool2_int Tryz.lays318 b w
def Tryz.lays283_ren : Go.Shelf.Ren := ⟨fun | 283 => 55 | n => n, fun | 3 => 3 | 9 => 9 | 4 => 4 | n => n, fun | n => n⟩
theorem Tryz.lays283 : Go.Proofs.Lays.n283 Tryz.prog Tryz.lays283_ren := {
  mixed := by kernel_rfl
  f283 := Tryz.func55.trans (congrArg some (by kernel_rfl))
  t3 := Tryz.underlying3
  a3 := Tryz.isAgg3
  z3 := Tryz.sizeOf3
  v3 := Tryz.zeroValue3
  t4 := Tryz.underlying4
  a4 := Tryz.isAgg4
  z4 := Tryz.sizeOf4
  v4 := Tryz.zeroValue4
  t9 := Tryz.underlying9
  a9 := Tryz.isAgg9
  z9 := Tryz.sizeOf9
  v9 := Tryz.zeroValue9 }
open Go.Lib in
/-- internal/strconv.small: "small returns the string for an i with 0 <= i < nSmalls.": i's decimal numeral. The world is as it was. (LAID: no walk: one application.) -/
theorem Tryz.internal_strconv_small (i : Nat) (h : i < 100) (w : World) :
    Calls Tryz.prog 55 #[.int .i64 i] w fun e w' => e = .returned (.string ⟨(Lib.decDigits i).toArray⟩) ∧ w' = w := Any.internal_strconv_small Tryz.lays283 i h w
def Tryz.laysM284_ren : Go.Shelf.Ren := ⟨fun | 284 => 56 | 129 => 80 | 317 => 79 | 318 => 81 | n => n, fun | 53 => 107 | 3 => 3 | 212 => 139 | 0 => 0 | 4 => 4 | 46 => 142 | 5 => 5 | 9 => 9 | n => n, fun | 17 => 1 | n => n⟩
theorem Tryz.laysM284 : Go.Proofs.LaysM.n284 Tryz.prog Tryz.laysM284_ren := {
  mixed := by kernel_rfl
  f129 := Tryz.func80.trans (congrArg some (by kernel_rfl))
  f284 := Tryz.func56.trans (congrArg some (by kernel_rfl))
  f317 := Tryz.func79.trans (congrArg some (by kernel_rfl))
  f318 := Tryz.func81.trans (congrArg some (by kernel_rfl))
  t0 := Tryz.underlying0
  a0 := Tryz.isAgg0
  z0 := Tryz.sizeOf0
  v0 := Tryz.zeroValue0
  t3 := Tryz.underlying3
  a3 := Tryz.isAgg3
  z3 := Tryz.sizeOf3
  v3 := Tryz.zeroValue3
  t4 := Tryz.underlying4
  a4 := Tryz.isAgg4
  z4 := Tryz.sizeOf4
  v4 := Tryz.zeroValue4
  t5 := Tryz.underlying5
  a5 := Tryz.isAgg5
  z5 := Tryz.sizeOf5
  v5 := Tryz.zeroValue5
  t9 := Tryz.underlying9
  a9 := Tryz.isAgg9
  z9 := Tryz.sizeOf9
  v9 := Tryz.zeroValue9
  t46 := Tryz.underlying142
  a46 := Tryz.isAgg142
  z46 := Tryz.sizeOf142
  v46 := Tryz.zeroValue142
  t53 := Tryz.underlying107
  a53 := Tryz.isAgg107
  z53 := Tryz.sizeOf107
  v53 := Tryz.zeroValue107
  t212 := Tryz.underlying139
  a212 := Tryz.isAgg139
  z212 := Tryz.sizeOf139
  v212 := Tryz.zeroValue139
  g17 := by kernel_rfl
  i0 := by kernel_rfl
  i3 := by kernel_rfl
  i4 := by kernel_rfl
  i5 := by kernel_rfl
  i9 := by kernel_rfl
  i46 := by kernel_rfl
  i53 := by kernel_rfl
  i212 := by kernel_rfl
  m17 := by kernel_rfl }
open Go.Lib in
/-- internal/strconv.numDigits, at a d that is not 0: THE NUMBER OF d's DECIMAL DIGITS. The world is as it was. (LAID: no walk: one application.) -/
theorem Tryz.internal_strconv_numDigits (u : Nat) (h1 : 1 ≤ u) (h2 : u < 18446744073709551616) (w : World) (htab : Lib.TabIs Tryz.prog w "internal/strconv.uint64pow10" .u64 Lib.pow10Tab) :
    Calls Tryz.prog 56 #[.int .u64 u] w fun e w' => e = .returned (.int .i64 (Lib.nDigits u)) ∧ w' = w := Any.internal_strconv_numDigits Tryz.laysM284 u h1 h2 w htab
def Tryz.lays285_ren : Go.Shelf.Ren := ⟨fun | 285 => 57 | n => n, fun | 37 => 43 | 53 => 107 | 3 => 3 | 4 => 4 | 51 => 87 | 9 => 9 | 5 => 5 | 0 => 0 | n => n, fun | n => n⟩
theorem Tryz.lays285 : Go.Proofs.Lays.n285 Tryz.prog Tryz.lays285_ren := {
  mixed := by kernel_rfl
  f285 := Tryz.func57.trans (congrArg some (by kernel_rfl))
  t0 := Tryz.underlying0
  a0 := Tryz.isAgg0
  z0 := Tryz.sizeOf0
  v0 := Tryz.zeroValue0
  t3 := Tryz.underlying3
  a3 := Tryz.isAgg3
  z3 := Tryz.sizeOf3
  v3 := Tryz.zeroValue3
  t4 := Tryz.underlying4
  a4 := Tryz.isAgg4
  z4 := Tryz.sizeOf4
  v4 := Tryz.zeroValue4
  t5 := Tryz.underlying5
  a5 := Tryz.isAgg5
  z5 := Tryz.sizeOf5
  v5 := Tryz.zeroValue5
  t9 := Tryz.underlying9
  a9 := Tryz.isAgg9
  z9 := Tryz.sizeOf9
  v9 := Tryz.zeroValue9
  t37 := Tryz.underlying43
  a37 := Tryz.isAgg43
  z37 := Tryz.sizeOf43
  v37 := Tryz.zeroValue43
  t51 := Tryz.underlying87
  a51 := Tryz.isAgg87
  z51 := Tryz.sizeOf87
  v51 := Tryz.zeroValue87
  t53 := Tryz.underlying107
  a53 := Tryz.isAgg107
  z53 := Tryz.sizeOf107
  v53 := Tryz.zeroValue107 }
open Go.RowKit Go.Sort Go.Lib in
/-- internal/strconv.formatBase10: "formatBase10 formats the decimal representation of u into a. The caller is responsible for ensuring that a is big enough to hold u. If a is too big, leading zeros will be filled in as needed.": THE ROW HOLDS u's DIGITS ('FmtInv .. 0 ..': every place t holds 'dg u (len - 1 - t)'); all else is as it was but for the count of draws. (LAID: no walk: one application.) -/
theorem Tryz.internal_strconv_formatBase10 (blk off cap : Nat) (u : Nat) (d : Array UInt8) (w : World) (hH : Holds (fun (b : UInt8) => Value.int .u8 (b.toNat : Int)) w blk off d) (hu : u < 10 ^ d.size) (hu64 : u < 18446744073709551616) (hsz : d.size < 4611686018427387904) :
    Calls Tryz.prog 57 #[.slice (some ⟨blk, off, none⟩) d.size cap, .int .u64 u] w fun e w' =>
      e = .returned (.tuple #[]) ∧ ∃ (n v' : Nat) (dk : Array UInt8), w' = (putRow (fun (b : UInt8) => Value.int .u8 (b.toNat : Int)) w blk off dk).drewN n ∧ FmtInv d.size u 0 v' dk := Any.internal_strconv_formatBase10 Tryz.lays285 blk off cap u d w hH hu hu64 hsz
def Tryz.laysM246_ren : Go.Shelf.Ren := ⟨fun | 246 => 39 | 283 => 55 | 284 => 56 | 285 => 57 | 286 => 58 | 129 => 80 | 317 => 79 | 318 => 81 | 319 => 82 | 320 => 83 | 337 => 97 | 338 => 98 | n => n, fun | 2 => 2 | 3 => 3 | 9 => 9 | 4 => 4 | 171 => 106 | 0 => 0 | 53 => 107 | 37 => 43 | 5 => 5 | 173 => 110 | 212 => 139 | 51 => 87 | 20 => 20 | 213 => 140 | 46 => 142 | 232 => 166 | 233 => 167 | n => n, fun | 17 => 1 | 18 => 9 | 19 => 10 | n => n⟩
theorem Tryz.laysM246 : Go.Proofs.LaysM.n246 Tryz.prog Tryz.laysM246_ren := {
  mixed := by kernel_rfl
  f129 := Tryz.func80.trans (congrArg some (by kernel_rfl))
  f246 := Tryz.func39.trans (congrArg some (by kernel_rfl))
  f283 := Tryz.func55.trans (congrArg some (by kernel_rfl))
  f284 := Tryz.func56.trans (congrArg some (by kernel_rfl))
  f285 := Tryz.func57.trans (congrArg some (by kernel_rfl))
  f286 := Tryz.func58.trans (congrArg some (by kernel_rfl))
  f317 := Tryz.func79.trans (congrArg some (by kernel_rfl))
  f318 := Tryz.func81.trans (congrArg some (by kernel_rfl))
  f319 := Tryz.func82.trans (congrArg some (by kernel_rfl))
  f320 := Tryz.func83.trans (congrArg some (by kernel_rfl))
  f337 := Tryz.func97.trans (congrArg some (by kernel_rfl))
  f338 := Tryz.func98.trans (congrArg some (by kernel_rfl))
  t0 := Tryz.underlying0
  a0 := Tryz.isAgg0
  z0 := Tryz.sizeOf0
  v0 := Tryz.zeroValue0
  t2 := Tryz.underlying2
  a2 := Tryz.isAgg2
  z2 := Tryz.sizeOf2
  v2 := Tryz.zeroValue2
  t3 := Tryz.underlying3
  a3 := Tryz.isAgg3
  z3 := Tryz.sizeOf3
  v3 := Tryz.zeroValue3
  t4 := Tryz.underlying4
  a4 := Tryz.isAgg4
  z4 := Tryz.sizeOf4
  v4 := Tryz.zeroValue4
  t5 := Tryz.underlying5
  a5 := Tryz.isAgg5
  z5 := Tryz.sizeOf5
  v5 := Tryz.zeroValue5
  t9 := Tryz.underlying9
  a9 := Tryz.isAgg9
  z9 := Tryz.sizeOf9
  v9 := Tryz.zeroValue9
  t20 := Tryz.underlying20
  a20 := Tryz.isAgg20
  z20 := Tryz.sizeOf20
  v20 := Tryz.zeroValue20
  t37 := Tryz.underlying43
  a37 := Tryz.isAgg43
  z37 := Tryz.sizeOf43
  v37 := Tryz.zeroValue43
  t46 := Tryz.underlying142
  a46 := Tryz.isAgg142
  z46 := Tryz.sizeOf142
  v46 := Tryz.zeroValue142
  t51 := Tryz.underlying87
  a51 := Tryz.isAgg87
  z51 := Tryz.sizeOf87
  v51 := Tryz.zeroValue87
  t53 := Tryz.underlying107
  a53 := Tryz.isAgg107
  z53 := Tryz.sizeOf107
  v53 := Tryz.zeroValue107
  t171 := Tryz.underlying106
  a171 := Tryz.isAgg106
  z171 := Tryz.sizeOf106
  v171 := Tryz.zeroValue106
  t173 := Tryz.underlying110
  a173 := Tryz.isAgg110
  z173 := Tryz.sizeOf110
  v173 := Tryz.zeroValue110
  t212 := Tryz.underlying139
  a212 := Tryz.isAgg139
  z212 := Tryz.sizeOf139
  v212 := Tryz.zeroValue139
  t213 := Tryz.underlying140
  a213 := Tryz.isAgg140
  z213 := Tryz.sizeOf140
  t232 := Tryz.underlying166
  a232 := Tryz.isAgg166
  z232 := Tryz.sizeOf166
  v232 := Tryz.zeroValue166
  t233 := Tryz.underlying167
  a233 := Tryz.isAgg167
  z233 := Tryz.sizeOf167
  v233 := Tryz.zeroValue167
  g17 := by kernel_rfl
  g18 := by kernel_rfl
  g19 := by kernel_rfl
  i0 := by kernel_rfl
  i2 := by kernel_rfl
  i3 := by kernel_rfl
  i4 := by kernel_rfl
  i5 := by kernel_rfl
  i9 := by kernel_rfl
  i20 := by kernel_rfl
  i37 := by kernel_rfl
  i46 := by kernel_rfl
  i51 := by kernel_rfl
  i53 := by kernel_rfl
  i171 := by kernel_rfl
  i173 := by kernel_rfl
  i212 := by kernel_rfl
  i232 := by kernel_rfl
  i233 := by kernel_rfl
  m17 := by kernel_rfl
  m18 := by kernel_rfl
  m19 := by kernel_rfl }
open Go.RowKit Go.Sort Go.Lib in
/-- internal/strconv.FormatInt: "FormatInt returns the string representation of i in the given base": AT BASE 10: i's decimal numeral, for every int64. The world behind the call: the world before it, new blocks behind the heap, draws. (LAID: no walk: one application.) -/
theorem Tryz.internal_strconv_FormatInt_10 (n : Int) (h0 : -9223372036854775808 ≤ n) (h1 : n ≤ 9223372036854775807) (w : World) (htab : Lib.TabIs Tryz.prog w "internal/strconv.uint64pow10" .u64 Lib.pow10Tab) :
    Calls Tryz.prog 39 #[.int .i64 n, .int .i64 10] w fun e w' => e = .returned (.string ⟨(Lib.itoa n).toArray⟩) ∧ ∃ k os, w' = grow (w.drewN k) os := Any.internal_strconv_FormatInt_10 Tryz.laysM246 n h0 h1 w htab
def Tryz.lays246_ren : Go.Shelf.Ren := ⟨fun | 246 => 39 | 283 => 55 | 284 => 56 | 285 => 57 | 286 => 58 | 129 => 80 | 317 => 79 | 318 => 81 | 319 => 82 | 320 => 83 | 337 => 97 | 338 => 98 | n => n, fun | 2 => 2 | 3 => 3 | 9 => 9 | 4 => 4 | 171 => 106 | 0 => 0 | 53 => 107 | 37 => 43 | 5 => 5 | 173 => 110 | 212 => 139 | 51 => 87 | 20 => 20 | 213 => 140 | 46 => 142 | 232 => 166 | 233 => 167 | n => n, fun | 17 => 1 | 18 => 9 | 19 => 10 | n => n⟩
theorem Tryz.lays246 : Go.Proofs.Lays.n246 Tryz.prog Tryz.lays246_ren := {
  mixed := by kernel_rfl
  f129 := Tryz.func80.trans (congrArg some (by kernel_rfl))
  f246 := Tryz.func39.trans (congrArg some (by kernel_rfl))
  f283 := Tryz.func55.trans (congrArg some (by kernel_rfl))
  f284 := Tryz.func56.trans (congrArg some (by kernel_rfl))
  f285 := Tryz.func57.trans (congrArg some (by kernel_rfl))
  f286 := Tryz.func58.trans (congrArg some (by kernel_rfl))
  f317 := Tryz.func79.trans (congrArg some (by kernel_rfl))
  f318 := Tryz.func81.trans (congrArg some (by kernel_rfl))
  f319 := Tryz.func82.trans (congrArg some (by kernel_rfl))
  f320 := Tryz.func83.trans (congrArg some (by kernel_rfl))
  f337 := Tryz.func97.trans (congrArg some (by kernel_rfl))
  f338 := Tryz.func98.trans (congrArg some (by kernel_rfl))
  t0 := Tryz.underlying0
  a0 := Tryz.isAgg0
  z0 := Tryz.sizeOf0
  v0 := Tryz.zeroValue0
  t2 := Tryz.underlying2
  a2 := Tryz.isAgg2
  z2 := Tryz.sizeOf2
  v2 := Tryz.zeroValue2
  t3 := Tryz.underlying3
  a3 := Tryz.isAgg3
  z3 := Tryz.sizeOf3
  v3 := Tryz.zeroValue3
  t4 := Tryz.underlying4
  a4 := Tryz.isAgg4
  z4 := Tryz.sizeOf4
  v4 := Tryz.zeroValue4
  t5 := Tryz.underlying5
  a5 := Tryz.isAgg5
  z5 := Tryz.sizeOf5
  v5 := Tryz.zeroValue5
  t9 := Tryz.underlying9
  a9 := Tryz.isAgg9
  z9 := Tryz.sizeOf9
  v9 := Tryz.zeroValue9
  t20 := Tryz.underlying20
  a20 := Tryz.isAgg20
  z20 := Tryz.sizeOf20
  v20 := Tryz.zeroValue20
  t37 := Tryz.underlying43
  a37 := Tryz.isAgg43
  z37 := Tryz.sizeOf43
  v37 := Tryz.zeroValue43
  t46 := Tryz.underlying142
  a46 := Tryz.isAgg142
  z46 := Tryz.sizeOf142
  v46 := Tryz.zeroValue142
  t51 := Tryz.underlying87
  a51 := Tryz.isAgg87
  z51 := Tryz.sizeOf87
  v51 := Tryz.zeroValue87
  t53 := Tryz.underlying107
  a53 := Tryz.isAgg107
  z53 := Tryz.sizeOf107
  v53 := Tryz.zeroValue107
  t171 := Tryz.underlying106
  a171 := Tryz.isAgg106
  z171 := Tryz.sizeOf106
  v171 := Tryz.zeroValue106
  t173 := Tryz.underlying110
  a173 := Tryz.isAgg110
  z173 := Tryz.sizeOf110
  v173 := Tryz.zeroValue110
  t212 := Tryz.underlying139
  a212 := Tryz.isAgg139
  z212 := Tryz.sizeOf139
  v212 := Tryz.zeroValue139
  t213 := Tryz.underlying140
  a213 := Tryz.isAgg140
  z213 := Tryz.sizeOf140
  t232 := Tryz.underlying166
  a232 := Tryz.isAgg166
  z232 := Tryz.sizeOf166
  v232 := Tryz.zeroValue166
  t233 := Tryz.underlying167
  a233 := Tryz.isAgg167
  z233 := Tryz.sizeOf167
  v233 := Tryz.zeroValue167
  g17 := by kernel_rfl
  g18 := by kernel_rfl
  g19 := by kernel_rfl }
open Go.RowKit Go.Sort Go.Lib in
/-- THE ROAD WITHOUT THE TABLE: 0 <= i < 100: two constants are read, nothing is laid: no premise on the world, and the world is as it was. (LAID: no walk: one application.) -/
theorem Tryz.internal_strconv_FormatInt_10_small (i : Nat) (hi : i < 100) (w : World) :
    Calls Tryz.prog 39 #[.int .i64 i, .int .i64 10] w fun e w' => e = .returned (.string ⟨(Lib.decDigits i).toArray⟩) ∧ w' = w := Any.internal_strconv_FormatInt_10_small Tryz.lays246 i hi w
def Tryz.laysM243_ren : Go.Shelf.Ren := ⟨fun | 243 => 24 | 246 => 39 | 283 => 55 | 284 => 56 | 285 => 57 | 286 => 58 | 129 => 80 | 317 => 79 | 318 => 81 | 319 => 82 | 320 => 83 | 337 => 97 | 338 => 98 | n => n, fun | 3 => 3 | 9 => 9 | 2 => 2 | 4 => 4 | 171 => 106 | 0 => 0 | 53 => 107 | 37 => 43 | 5 => 5 | 173 => 110 | 212 => 139 | 51 => 87 | 20 => 20 | 213 => 140 | 46 => 142 | 232 => 166 | 233 => 167 | n => n, fun | 17 => 1 | 18 => 9 | 19 => 10 | n => n⟩
theorem Tryz.laysM243 : Go.Proofs.LaysM.n243 Tryz.prog Tryz.laysM243_ren := {
  mixed := by kernel_rfl
  f129 := Tryz.func80.trans (congrArg some (by kernel_rfl))
  f243 := Tryz.func24.trans (congrArg some (by kernel_rfl))
  f246 := Tryz.func39.trans (congrArg some (by kernel_rfl))
  f283 := Tryz.func55.trans (congrArg some (by kernel_rfl))
  f284 := Tryz.func56.trans (congrArg some (by kernel_rfl))
  f285 := Tryz.func57.trans (congrArg some (by kernel_rfl))
  f286 := Tryz.func58.trans (congrArg some (by kernel_rfl))
  f317 := Tryz.func79.trans (congrArg some (by kernel_rfl))
  f318 := Tryz.func81.trans (congrArg some (by kernel_rfl))
  f319 := Tryz.func82.trans (congrArg some (by kernel_rfl))
  f320 := Tryz.func83.trans (congrArg some (by kernel_rfl))
  f337 := Tryz.func97.trans (congrArg some (by kernel_rfl))
  f338 := Tryz.func98.trans (congrArg some (by kernel_rfl))
  t0 := Tryz.underlying0
  a0 := Tryz.isAgg0
  z0 := Tryz.sizeOf0
  v0 := Tryz.zeroValue0
  t2 := Tryz.underlying2
  a2 := Tryz.isAgg2
  z2 := Tryz.sizeOf2
  v2 := Tryz.zeroValue2
  t3 := Tryz.underlying3
  a3 := Tryz.isAgg3
  z3 := Tryz.sizeOf3
  v3 := Tryz.zeroValue3
  t4 := Tryz.underlying4
  a4 := Tryz.isAgg4
  z4 := Tryz.sizeOf4
  v4 := Tryz.zeroValue4
  t5 := Tryz.underlying5
  a5 := Tryz.isAgg5
  z5 := Tryz.sizeOf5
  v5 := Tryz.zeroValue5
  t9 := Tryz.underlying9
  a9 := Tryz.isAgg9
  z9 := Tryz.sizeOf9
  v9 := Tryz.zeroValue9
  t20 := Tryz.underlying20
  a20 := Tryz.isAgg20
  z20 := Tryz.sizeOf20
  v20 := Tryz.zeroValue20
  t37 := Tryz.underlying43
  a37 := Tryz.isAgg43
  z37 := Tryz.sizeOf43
  v37 := Tryz.zeroValue43
  t46 := Tryz.underlying142
  a46 := Tryz.isAgg142
  z46 := Tryz.sizeOf142
  v46 := Tryz.zeroValue142
  t51 := Tryz.underlying87
  a51 := Tryz.isAgg87
  z51 := Tryz.sizeOf87
  v51 := Tryz.zeroValue87
  t53 := Tryz.underlying107
  a53 := Tryz.isAgg107
  z53 := Tryz.sizeOf107
  v53 := Tryz.zeroValue107
  t171 := Tryz.underlying106
  a171 := Tryz.isAgg106
  z171 := Tryz.sizeOf106
  v171 := Tryz.zeroValue106
  t173 := Tryz.underlying110
  a173 := Tryz.isAgg110
  z173 := Tryz.sizeOf110
  v173 := Tryz.zeroValue110
  t212 := Tryz.underlying139
  a212 := Tryz.isAgg139
  z212 := Tryz.sizeOf139
  v212 := Tryz.zeroValue139
  t213 := Tryz.underlying140
  a213 := Tryz.isAgg140
  z213 := Tryz.sizeOf140
  t232 := Tryz.underlying166
  a232 := Tryz.isAgg166
  z232 := Tryz.sizeOf166
  v232 := Tryz.zeroValue166
  t233 := Tryz.underlying167
  a233 := Tryz.isAgg167
  z233 := Tryz.sizeOf167
  v233 := Tryz.zeroValue167
  g17 := by kernel_rfl
  g18 := by kernel_rfl
  g19 := by kernel_rfl
  i0 := by kernel_rfl
  i2 := by kernel_rfl
  i3 := by kernel_rfl
  i4 := by kernel_rfl
  i5 := by kernel_rfl
  i9 := by kernel_rfl
  i20 := by kernel_rfl
  i37 := by kernel_rfl
  i46 := by kernel_rfl
  i51 := by kernel_rfl
  i53 := by kernel_rfl
  i171 := by kernel_rfl
  i173 := by kernel_rfl
  i212 := by kernel_rfl
  i232 := by kernel_rfl
  i233 := by kernel_rfl
  m17 := by kernel_rfl
  m18 := by kernel_rfl
  m19 := by kernel_rfl }
open Go.RowKit Go.Sort Go.Lib in
/-- internal/strconv.Itoa: "Itoa is equivalent to FormatInt(int64(i), 10).": i's decimal numeral, for every int. (LAID: no walk: one application.) -/
theorem Tryz.internal_strconv_Itoa (n : Int) (h0 : -9223372036854775808 ≤ n) (h1 : n ≤ 9223372036854775807) (w : World) (htab : Lib.TabIs Tryz.prog w "internal/strconv.uint64pow10" .u64 Lib.pow10Tab) :
    Calls Tryz.prog 24 #[.int .i64 n] w fun e w' => e = .returned (.string ⟨(Lib.itoa n).toArray⟩) ∧ ∃ k os, w' = grow (w.drewN k) os := Any.internal_strconv_Itoa Tryz.laysM243 n h0 h1 w htab
def Tryz.lays243_ren : Go.Shelf.Ren := ⟨fun | 243 => 24 | 246 => 39 | 283 => 55 | 284 => 56 | 285 => 57 | 286 => 58 | 129 => 80 | 317 => 79 | 318 => 81 | 319 => 82 | 320 => 83 | 337 => 97 | 338 => 98 | n => n, fun | 3 => 3 | 9 => 9 | 2 => 2 | 4 => 4 | 171 => 106 | 0 => 0 | 53 => 107 | 37 => 43 | 5 => 5 | 173 => 110 | 212 => 139 | 51 => 87 | 20 => 20 | 213 => 140 | 46 => 142 | 232 => 166 | 233 => 167 | n => n, fun | 17 => 1 | 18 => 9 | 19 => 10 | n => n⟩
theorem Tryz.lays243 : Go.Proofs.Lays.n243 Tryz.prog Tryz.lays243_ren := {
  mixed := by kernel_rfl
  f129 := Tryz.func80.trans (congrArg some (by kernel_rfl))
  f243 := Tryz.func24.trans (congrArg some (by kernel_rfl))
  f246 := Tryz.func39.trans (congrArg some (by kernel_rfl))
  f283 := Tryz.func55.trans (congrArg some (by kernel_rfl))
  f284 := Tryz.func56.trans (congrArg some (by kernel_rfl))
  f285 := Tryz.func57.trans (congrArg some (by kernel_rfl))
  f286 := Tryz.func58.trans (congrArg some (by kernel_rfl))
  f317 := Tryz.func79.trans (congrArg some (by kernel_rfl))
  f318 := Tryz.func81.trans (congrArg some (by kernel_rfl))
  f319 := Tryz.func82.trans (congrArg some (by kernel_rfl))
  f320 := Tryz.func83.trans (congrArg some (by kernel_rfl))
  f337 := Tryz.func97.trans (congrArg some (by kernel_rfl))
  f338 := Tryz.func98.trans (congrArg some (by kernel_rfl))
  t0 := Tryz.underlying0
  a0 := Tryz.isAgg0
  z0 := Tryz.sizeOf0
  v0 := Tryz.zeroValue0
  t2 := Tryz.underlying2
  a2 := Tryz.isAgg2
  z2 := Tryz.sizeOf2
  v2 := Tryz.zeroValue2
  t3 := Tryz.underlying3
  a3 := Tryz.isAgg3
  z3 := Tryz.sizeOf3
  v3 := Tryz.zeroValue3
  t4 := Tryz.underlying4
  a4 := Tryz.isAgg4
  z4 := Tryz.sizeOf4
  v4 := Tryz.zeroValue4
  t5 := Tryz.underlying5
  a5 := Tryz.isAgg5
  z5 := Tryz.sizeOf5
  v5 := Tryz.zeroValue5
  t9 := Tryz.underlying9
  a9 := Tryz.isAgg9
  z9 := Tryz.sizeOf9
  v9 := Tryz.zeroValue9
  t20 := Tryz.underlying20
  a20 := Tryz.isAgg20
  z20 := Tryz.sizeOf20
  v20 := Tryz.zeroValue20
  t37 := Tryz.underlying43
  a37 := Tryz.isAgg43
  z37 := Tryz.sizeOf43
  v37 := Tryz.zeroValue43
  t46 := Tryz.underlying142
  a46 := Tryz.isAgg142
  z46 := Tryz.sizeOf142
  v46 := Tryz.zeroValue142
  t51 := Tryz.underlying87
  a51 := Tryz.isAgg87
  z51 := Tryz.sizeOf87
  v51 := Tryz.zeroValue87
  t53 := Tryz.underlying107
  a53 := Tryz.isAgg107
  z53 := Tryz.sizeOf107
  v53 := Tryz.zeroValue107
  t171 := Tryz.underlying106
  a171 := Tryz.isAgg106
  z171 := Tryz.sizeOf106
  v171 := Tryz.zeroValue106
  t173 := Tryz.underlying110
  a173 := Tryz.isAgg110
  z173 := Tryz.sizeOf110
  v173 := Tryz.zeroValue110
  t212 := Tryz.underlying139
  a212 := Tryz.isAgg139
  z212 := Tryz.sizeOf139
  v212 := Tryz.zeroValue139
  t213 := Tryz.underlying140
  a213 := Tryz.isAgg140
  z213 := Tryz.sizeOf140
  t232 := Tryz.underlying166
  a232 := Tryz.isAgg166
  z232 := Tryz.sizeOf166
  v232 := Tryz.zeroValue166
  t233 := Tryz.underlying167
  a233 := Tryz.isAgg167
  z233 := Tryz.sizeOf167
  v233 := Tryz.zeroValue167
  g17 := by kernel_rfl
  g18 := by kernel_rfl
  g19 := by kernel_rfl }
open Go.RowKit Go.Sort Go.Lib in
/-- THE ROAD WITHOUT THE TABLE: 0 <= i < 100. (LAID: no walk: one application.) -/
theorem Tryz.internal_strconv_Itoa_small (i : Nat) (hi : i < 100) (w : World) :
    Calls Tryz.prog 24 #[.int .i64 i] w fun e w' => e = .returned (.string ⟨(Lib.decDigits i).toArray⟩) ∧ w' = w := Any.internal_strconv_Itoa_small Tryz.lays243 i hi w
def Tryz.laysM171_ren : Go.Shelf.Ren := ⟨fun | 171 => 20 | 243 => 24 | 246 => 39 | 283 => 55 | 284 => 56 | 285 => 57 | 286 => 58 | 129 => 80 | 317 => 79 | 318 => 81 | 319 => 82 | 320 => 83 | 337 => 97 | 338 => 98 | n => n, fun | 3 => 3 | 9 => 9 | 2 => 2 | 4 => 4 | 171 => 106 | 0 => 0 | 53 => 107 | 37 => 43 | 5 => 5 | 173 => 110 | 212 => 139 | 51 => 87 | 20 => 20 | 213 => 140 | 46 => 142 | 232 => 166 | 233 => 167 | n => n, fun | 17 => 1 | 18 => 9 | 19 => 10 | n => n⟩
theorem Tryz.laysM171 : Go.Proofs.LaysM.n171 Tryz.prog Tryz.laysM171_ren := {
  mixed := by kernel_rfl
  f129 := Tryz.func80.trans (congrArg some (by kernel_rfl))
  f171 := Tryz.func20.trans (congrArg some (by kernel_rfl))
  f243 := Tryz.func24.trans (congrArg some (by kernel_rfl))
  f246 := Tryz.func39.trans (congrArg some (by kernel_rfl))
  f283 := Tryz.func55.trans (congrArg some (by kernel_rfl))
  f284 := Tryz.func56.trans (congrArg some (by kernel_rfl))
  f285 := Tryz.func57.trans (congrArg some (by kernel_rfl))
  f286 := Tryz.func58.trans (congrArg some (by kernel_rfl))
  f317 := Tryz.func79.trans (congrArg some (by kernel_rfl))
  f318 := Tryz.func81.trans (congrArg some (by kernel_rfl))
  f319 := Tryz.func82.trans (congrArg some (by kernel_rfl))
  f320 := Tryz.func83.trans (congrArg some (by kernel_rfl))
  f337 := Tryz.func97.trans (congrArg some (by kernel_rfl))
  f338 := Tryz.func98.trans (congrArg some (by kernel_rfl))
  t0 := Tryz.underlying0
  a0 := Tryz.isAgg0
  z0 := Tryz.sizeOf0
  v0 := Tryz.zeroValue0
  t2 := Tryz.underlying2
  a2 := Tryz.isAgg2
  z2 := Tryz.sizeOf2
  v2 := Tryz.zeroValue2
  t3 := Tryz.underlying3
  a3 := Tryz.isAgg3
  z3 := Tryz.sizeOf3
  v3 := Tryz.zeroValue3
  t4 := Tryz.underlying4
  a4 := Tryz.isAgg4
  z4 := Tryz.sizeOf4
  v4 := Tryz.zeroValue4
  t5 := Tryz.underlying5
  a5 := Tryz.isAgg5
  z5 := Tryz.sizeOf5
  v5 := Tryz.zeroValue5
  t9 := Tryz.underlying9
  a9 := Tryz.isAgg9
  z9 := Tryz.sizeOf9
  v9 := Tryz.zeroValue9
  t20 := Tryz.underlying20
  a20 := Tryz.isAgg20
  z20 := Tryz.sizeOf20
  v20 := Tryz.zeroValue20
  t37 := Tryz.underlying43
  a37 := Tryz.isAgg43
  z37 := Tryz.sizeOf43
  v37 := Tryz.zeroValue43
  t46 := Tryz.underlying142
  a46 := Tryz.isAgg142
  z46 := Tryz.sizeOf142
  v46 := Tryz.zeroValue142
  t51 := Tryz.underlying87
  a51 := Tryz.isAgg87
  z51 := Tryz.sizeOf87
  v51 := Tryz.zeroValue87
  t53 := Tryz.underlying107
  a53 := Tryz.isAgg107
  z53 := Tryz.sizeOf107
  v53 := Tryz.zeroValue107
  t171 := Tryz.underlying106
  a171 := Tryz.isAgg106
  z171 := Tryz.sizeOf106
  v171 := Tryz.zeroValue106
  t173 := Tryz.underlying110
  a173 := Tryz.isAgg110
  z173 := Tryz.sizeOf110
  v173 := Tryz.zeroValue110
  t212 := Tryz.underlying139
  a212 := Tryz.isAgg139
  z212 := Tryz.sizeOf139
  v212 := Tryz.zeroValue139
  t213 := Tryz.underlying140
  a213 := Tryz.isAgg140
  z213 := Tryz.sizeOf140
  t232 := Tryz.underlying166
  a232 := Tryz.isAgg166
  z232 := Tryz.sizeOf166
  v232 := Tryz.zeroValue166
  t233 := Tryz.underlying167
  a233 := Tryz.isAgg167
  z233 := Tryz.sizeOf167
  v233 := Tryz.zeroValue167
  g17 := by kernel_rfl
  g18 := by kernel_rfl
  g19 := by kernel_rfl
  i0 := by kernel_rfl
  i2 := by kernel_rfl
  i3 := by kernel_rfl
  i4 := by kernel_rfl
  i5 := by kernel_rfl
  i9 := by kernel_rfl
  i20 := by kernel_rfl
  i37 := by kernel_rfl
  i46 := by kernel_rfl
  i51 := by kernel_rfl
  i53 := by kernel_rfl
  i171 := by kernel_rfl
  i173 := by kernel_rfl
  i212 := by kernel_rfl
  i232 := by kernel_rfl
  i233 := by kernel_rfl
  m17 := by kernel_rfl
  m18 := by kernel_rfl
  m19 := by kernel_rfl }
open Go.RowKit Go.Sort Go.Lib in
/-- strconv.Itoa: "Itoa is equivalent to FormatInt(int64(i), 10).": i's DECIMAL NUMERAL ('Lib.itoa': a '-' where i is negative, then the digits), FOR EVERY int. The world behind the call: the world before it, new blocks behind the heap (the library's 'var a [24]byte'), draws. (LAID: no walk: one application.) -/
theorem Tryz.strconv_Itoa (n : Int) (h0 : -9223372036854775808 ≤ n) (h1 : n ≤ 9223372036854775807) (w : World) (htab : Lib.TabIs Tryz.prog w "internal/strconv.uint64pow10" .u64 Lib.pow10Tab) :
    Calls Tryz.prog 20 #[.int .i64 n] w fun e w' => e = .returned (.string ⟨(Lib.itoa n).toArray⟩) ∧ ∃ k os, w' = grow (w.drewN k) os := Any.strconv_Itoa Tryz.laysM171 n h0 h1 w htab
def Tryz.lays171_ren : Go.Shelf.Ren := ⟨fun | 171 => 20 | 243 => 24 | 246 => 39 | 283 => 55 | 284 => 56 | 285 => 57 | 286 => 58 | 129 => 80 | 317 => 79 | 318 => 81 | 319 => 82 | 320 => 83 | 337 => 97 | 338 => 98 | n => n, fun | 3 => 3 | 9 => 9 | 2 => 2 | 4 => 4 | 171 => 106 | 0 => 0 | 53 => 107 | 37 => 43 | 5 => 5 | 173 => 110 | 212 => 139 | 51 => 87 | 20 => 20 | 213 => 140 | 46 => 142 | 232 => 166 | 233 => 167 | n => n, fun | 17 => 1 | 18 => 9 | 19 => 10 | n => n⟩
theorem Tryz.lays171 : Go.Proofs.Lays.n171 Tryz.prog Tryz.lays171_ren := {
  mixed := by kernel_rfl
  f129 := Tryz.func80.trans (congrArg some (by kernel_rfl))
  f171 := Tryz.func20.trans (congrArg some (by kernel_rfl))
  f243 := Tryz.func24.trans (congrArg some (by kernel_rfl))
  f246 := Tryz.func39.trans (congrArg some (by kernel_rfl))
  f283 := Tryz.func55.trans (congrArg some (by kernel_rfl))
  f284 := Tryz.func56.trans (congrArg some (by kernel_rfl))
  f285 := Tryz.func57.trans (congrArg some (by kernel_rfl))
  f286 := Tryz.func58.trans (congrArg some (by kernel_rfl))
  f317 := Tryz.func79.trans (congrArg some (by kernel_rfl))
  f318 := Tryz.func81.trans (congrArg some (by kernel_rfl))
  f319 := Tryz.func82.trans (congrArg some (by kernel_rfl))
  f320 := Tryz.func83.trans (congrArg some (by kernel_rfl))
  f337 := Tryz.func97.trans (congrArg some (by kernel_rfl))
  f338 := Tryz.func98.trans (congrArg some (by kernel_rfl))
  t0 := Tryz.underlying0
  a0 := Tryz.isAgg0
  z0 := Tryz.sizeOf0
  v0 := Tryz.zeroValue0
  t2 := Tryz.underlying2
  a2 := Tryz.isAgg2
  z2 := Tryz.sizeOf2
  v2 := Tryz.zeroValue2
  t3 := Tryz.underlying3
  a3 := Tryz.isAgg3
  z3 := Tryz.sizeOf3
  v3 := Tryz.zeroValue3
  t4 := Tryz.underlying4
  a4 := Tryz.isAgg4
  z4 := Tryz.sizeOf4
  v4 := Tryz.zeroValue4
  t5 := Tryz.underlying5
  a5 := Tryz.isAgg5
  z5 := Tryz.sizeOf5
  v5 := Tryz.zeroValue5
  t9 := Tryz.underlying9
  a9 := Tryz.isAgg9
  z9 := Tryz.sizeOf9
  v9 := Tryz.zeroValue9
  t20 := Tryz.underlying20
  a20 := Tryz.isAgg20
  z20 := Tryz.sizeOf20
  v20 := Tryz.zeroValue20
  t37 := Tryz.underlying43
  a37 := Tryz.isAgg43
  z37 := Tryz.sizeOf43
  v37 := Tryz.zeroValue43
  t46 := Tryz.underlying142
  a46 := Tryz.isAgg142
  z46 := Tryz.sizeOf142
  v46 := Tryz.zeroValue142
  t51 := Tryz.underlying87
  a51 := Tryz.isAgg87
  z51 := Tryz.sizeOf87
  v51 := Tryz.zeroValue87
  t53 := Tryz.underlying107
  a53 := Tryz.isAgg107
  z53 := Tryz.sizeOf107
  v53 := Tryz.zeroValue107
  t171 := Tryz.underlying106
  a171 := Tryz.isAgg106
  z171 := Tryz.sizeOf106
  v171 := Tryz.zeroValue106
  t173 := Tryz.underlying110
  a173 := Tryz.isAgg110
  z173 := Tryz.sizeOf110
  v173 := Tryz.zeroValue110
  t212 := Tryz.underlying139
  a212 := Tryz.isAgg139
  z212 := Tryz.sizeOf139
  v212 := Tryz.zeroValue139
  t213 := Tryz.underlying140
  a213 := Tryz.isAgg140
  z213 := Tryz.sizeOf140
  t232 := Tryz.underlying166
  a232 := Tryz.isAgg166
  z232 := Tryz.sizeOf166
  v232 := Tryz.zeroValue166
  t233 := Tryz.underlying167
  a233 := Tryz.isAgg167
  z233 := Tryz.sizeOf167
  v233 := Tryz.zeroValue167
  g17 := by kernel_rfl
  g18 := by kernel_rfl
  g19 := by kernel_rfl }
open Go.RowKit Go.Sort Go.Lib in
/-- THE ROAD WITHOUT THE TABLE: 0 <= i < 100: NO PREMISE ON THE WORLD, AND THE WORLD IS AS IT WAS: a row that keeps its argument in that range need list no table ('laid = []'). (LAID: no walk: one application.) -/
theorem Tryz.strconv_Itoa_small (i : Nat) (hi : i < 100) (w : World) :
    Calls Tryz.prog 20 #[.int .i64 i] w fun e w' => e = .returned (.string ⟨(Lib.decDigits i).toArray⟩) ∧ w' = w := Any.strconv_Itoa_small Tryz.lays171 i hi w
def Tryz.lays222_ren : Go.Shelf.Ren := ⟨fun | 222 => 40 | n => n, fun | 9 => 9 | 5 => 5 | 3 => 3 | 4 => 4 | n => n, fun | n => n⟩
theorem Tryz.lays222 : Go.Proofs.Lays.n222 Tryz.prog Tryz.lays222_ren := {
  mixed := by kernel_rfl
  f222 := Tryz.func40.trans (congrArg some (by kernel_rfl))
  t3 := Tryz.underlying3
  a3 := Tryz.isAgg3
  z3 := Tryz.sizeOf3
  v3 := Tryz.zeroValue3
  t4 := Tryz.underlying4
  a4 := Tryz.isAgg4
  z4 := Tryz.sizeOf4
  v4 := Tryz.zeroValue4
  t5 := Tryz.underlying5
  a5 := Tryz.isAgg5
  z5 := Tryz.sizeOf5
  v5 := Tryz.zeroValue5
  t9 := Tryz.underlying9
  a9 := Tryz.isAgg9
  z9 := Tryz.sizeOf9
  v9 := Tryz.zeroValue9 }
open Go.RowKit Go.Lib in
/-- internal/bytealg.LastIndexByteString: 'for i := len(s) - 1; i >= 0; i-- { if s[i] == c { return i } }; return -1'. (LAID: no walk: one application.) -/
theorem Tryz.bytealg_LastIndexByteString_nm (s : ByteArray) (c : Int) (hs : s.size < 4611686018427387904) (w : World) :
    Calls Tryz.prog 40 #[.string s, .int .u8 c] w fun e w' => e = .returned (.int .i64 (Lib.lastIndexByte s c)) ∧ w' = w := Any.bytealg_LastIndexByteString_nm Tryz.lays222 s c hs w
def Tryz.lays148_ren : Go.Shelf.Ren := ⟨fun | 148 => 27 | 222 => 40 | 223 => 41 | 269 => 59 | n => n, fun | 9 => 9 | 3 => 3 | 4 => 4 | 5 => 5 | 146 => 112 | 51 => 87 | 46 => 142 | n => n, fun | n => n⟩
theorem Tryz.lays148 : Go.Proofs.Lays.n148 Tryz.prog Tryz.lays148_ren := {
  mixed := by kernel_rfl
  f148 := Tryz.func27.trans (congrArg some (by kernel_rfl))
  f222 := Tryz.func40.trans (congrArg some (by kernel_rfl))
  f223 := Tryz.func41.trans (congrArg some (by kernel_rfl))
  f269 := Tryz.func59.trans (congrArg some (by kernel_rfl))
  t3 := Tryz.underlying3
  a3 := Tryz.isAgg3
  z3 := Tryz.sizeOf3
  v3 := Tryz.zeroValue3
  t4 := Tryz.underlying4
  a4 := Tryz.isAgg4
  z4 := Tryz.sizeOf4
  v4 := Tryz.zeroValue4
  t5 := Tryz.underlying5
  a5 := Tryz.isAgg5
  z5 := Tryz.sizeOf5
  v5 := Tryz.zeroValue5
  t9 := Tryz.underlying9
  a9 := Tryz.isAgg9
  z9 := Tryz.sizeOf9
  v9 := Tryz.zeroValue9
  t46 := Tryz.underlying142
  a46 := Tryz.isAgg142
  z46 := Tryz.sizeOf142
  v46 := Tryz.zeroValue142
  t51 := Tryz.underlying87
  a51 := Tryz.isAgg87
  z51 := Tryz.sizeOf87
  v51 := Tryz.zeroValue87
  t146 := Tryz.underlying112
  a146 := Tryz.isAgg112
  z146 := Tryz.sizeOf112
  v146 := Tryz.zeroValue112 }
open Go.RowKit Go.Lib in
/-- strings.LastIndex AT A substr OF ONE BYTE (as in 'strings.LastIndex(path, "/")'): the last place of that byte, or -1. (LAID: no walk: one application.) -/
theorem Tryz.strings_LastIndex_one (s sub : ByteArray) (h1 : sub.size = 1) (hs : s.size < 4611686018427387904) (w : World) :
    Calls Tryz.prog 27 #[.string s, .string sub] w fun e w' => e = .returned (.int .i64 (Lib.lastIndexByte s ((sub[0]'(by omega)).toNat : Int))) ∧ w' = w := Any.strings_LastIndex_one Tryz.lays148 s sub h1 hs w
open Go.RowKit Go.Lib in
/-- .. AT THE EMPTY substr: len(s). (LAID: no walk: one application.) -/
theorem Tryz.strings_LastIndex_empty (s sub : ByteArray) (h0 : sub.size = 0) (w : World) :
    Calls Tryz.prog 27 #[.string s, .string sub] w fun e w' => e = .returned (.int .i64 s.size) ∧ w' = w := Any.strings_LastIndex_empty Tryz.lays148 s sub h0 w
open Go.RowKit Go.Lib in
/-- .. AT A substr LONGER THAN s (and of two bytes or more): -1. (LAID: no walk: one application.) -/
theorem Tryz.strings_LastIndex_longer (s sub : ByteArray) (h2 : 2 ≤ sub.size) (hl : s.size < sub.size) (w : World) :
    Calls Tryz.prog 27 #[.string s, .string sub] w fun e w' => e = .returned (.int .i64 (-1)) ∧ w' = w := Any.strings_LastIndex_longer Tryz.lays148 s sub h2 hl w
open Go.RowKit Go.Lib in
/-- .. AT A substr AS LONG AS s (and of two bytes or more): 0 where the two are one, else -1. (LAID: no walk: one application.) -/
theorem Tryz.strings_LastIndex_whole (s sub : ByteArray) (h2 : 2 ≤ sub.size) (hl : sub.size = s.size) (w : World) :
    Calls Tryz.prog 27 #[.string s, .string sub] w fun e w' => e = .returned (.int .i64 (if sub = s then 0 else -1)) ∧ w' = w := Any.strings_LastIndex_whole Tryz.lays148 s sub h2 hl w
def Tryz.lays206_ren : Go.Shelf.Ren := ⟨fun | 206 => 49 | n => n, fun | 9 => 9 | 4 => 4 | 3 => 3 | n => n, fun | n => n⟩
theorem Tryz.lays206 : Go.Proofs.Lays.n206 Tryz.prog Tryz.lays206_ren := {
  mixed := by kernel_rfl
  f206 := Tryz.func49.trans (congrArg some (by kernel_rfl))
  t3 := Tryz.underlying3
  a3 := Tryz.isAgg3
  z3 := Tryz.sizeOf3
  v3 := Tryz.zeroValue3
  t4 := Tryz.underlying4
  a4 := Tryz.isAgg4
  z4 := Tryz.sizeOf4
  v4 := Tryz.zeroValue4
  t9 := Tryz.underlying9
  a9 := Tryz.isAgg9
  z9 := Tryz.sizeOf9
  v9 := Tryz.zeroValue9 }
open Go.RowKit Go.Lib in
/-- internal/stringslite.HasPrefix (what strings.HasPrefix calls). (LAID: no walk: one application.) -/
theorem Tryz.stringslite_HasPrefix (s p : ByteArray) (w : World) :
    Calls Tryz.prog 49 #[.string s, .string p] w fun e w' => e = .returned (.bool (Lib.hasPrefix s.data.toList p.data.toList)) ∧ w' = w := Any.stringslite_HasPrefix Tryz.lays206 s p w
def Tryz.lays99_ren : Go.Shelf.Ren := ⟨fun | 99 => 32 | 206 => 49 | n => n, fun | 9 => 9 | 4 => 4 | 3 => 3 | n => n, fun | n => n⟩
theorem Tryz.lays99 : Go.Proofs.Lays.n99 Tryz.prog Tryz.lays99_ren := {
  mixed := by kernel_rfl
  f99 := Tryz.func32.trans (congrArg some (by kernel_rfl))
  f206 := Tryz.func49.trans (congrArg some (by kernel_rfl))
  t3 := Tryz.underlying3
  a3 := Tryz.isAgg3
  z3 := Tryz.sizeOf3
  v3 := Tryz.zeroValue3
  t4 := Tryz.underlying4
  a4 := Tryz.isAgg4
  z4 := Tryz.sizeOf4
  v4 := Tryz.zeroValue4
  t9 := Tryz.underlying9
  a9 := Tryz.isAgg9
  z9 := Tryz.sizeOf9
  v9 := Tryz.zeroValue9 }
open Go.RowKit Go.Lib in
/-- strings.HasPrefix: "HasPrefix reports whether the string s begins with prefix.": IT RETURNS 'Lib.hasPrefix s prefix'; the world is as it was. (LAID: no walk: one application.) -/
theorem Tryz.strings_HasPrefix (s p : ByteArray) (w : World) :
    Calls Tryz.prog 32 #[.string s, .string p] w fun e w' => e = .returned (.bool (Lib.hasPrefix s.data.toList p.data.toList)) ∧ w' = w := Any.strings_HasPrefix Tryz.lays99 s p w
def Tryz.lays207_ren : Go.Shelf.Ren := ⟨fun | 207 => 50 | n => n, fun | 9 => 9 | 4 => 4 | 3 => 3 | n => n, fun | n => n⟩
theorem Tryz.lays207 : Go.Proofs.Lays.n207 Tryz.prog Tryz.lays207_ren := {
  mixed := by kernel_rfl
  f207 := Tryz.func50.trans (congrArg some (by kernel_rfl))
  t3 := Tryz.underlying3
  a3 := Tryz.isAgg3
  z3 := Tryz.sizeOf3
  v3 := Tryz.zeroValue3
  t4 := Tryz.underlying4
  a4 := Tryz.isAgg4
  z4 := Tryz.sizeOf4
  v4 := Tryz.zeroValue4
  t9 := Tryz.underlying9
  a9 := Tryz.isAgg9
  z9 := Tryz.sizeOf9
  v9 := Tryz.zeroValue9 }
open Go.RowKit Go.Lib in
/-- internal/stringslite.HasSuffix (what strings.HasSuffix calls). (LAID: no walk: one application.) -/
theorem Tryz.stringslite_HasSuffix (s p : ByteArray) (w : World) (hs : s.size ≤ 9223372036854775807) :
    Calls Tryz.prog 50 #[.string s, .string p] w fun e w' => e = .returned (.bool (Lib.hasSuffix s.data.toList p.data.toList)) ∧ w' = w := Any.stringslite_HasSuffix Tryz.lays207 s p w hs
def Tryz.lays100_ren : Go.Shelf.Ren := ⟨fun | 100 => 33 | 207 => 50 | n => n, fun | 9 => 9 | 4 => 4 | 3 => 3 | n => n, fun | n => n⟩
theorem Tryz.lays100 : Go.Proofs.Lays.n100 Tryz.prog Tryz.lays100_ren := {
  mixed := by kernel_rfl
  f100 := Tryz.func33.trans (congrArg some (by kernel_rfl))
  f207 := Tryz.func50.trans (congrArg some (by kernel_rfl))
  t3 := Tryz.underlying3
  a3 := Tryz.isAgg3
  z3 := Tryz.sizeOf3
  v3 := Tryz.zeroValue3
  t4 := Tryz.underlying4
  a4 := Tryz.isAgg4
  z4 := Tryz.sizeOf4
  v4 := Tryz.zeroValue4
  t9 := Tryz.underlying9
  a9 := Tryz.isAgg9
  z9 := Tryz.sizeOf9
  v9 := Tryz.zeroValue9 }
open Go.RowKit Go.Lib in
/-- strings.HasSuffix: "HasSuffix reports whether the string s ends with suffix.": IT RETURNS 'Lib.hasSuffix s suffix'; the world is as it was. ('hs': no Go string is longer: a caller has it of every string that it was handed.) (LAID: no walk: one application.) -/
theorem Tryz.strings_HasSuffix (s p : ByteArray) (w : World) (hs : s.size ≤ 9223372036854775807) :
    Calls Tryz.prog 33 #[.string s, .string p] w fun e w' => e = .returned (.bool (Lib.hasSuffix s.data.toList p.data.toList)) ∧ w' = w := Any.strings_HasSuffix Tryz.lays100 s p w hs
def Tryz.lays203_ren : Go.Shelf.Ren := ⟨fun | 203 => 71 | 262 => 95 | 313 => 106 | 274 => 108 | 275 => 109 | n => n, fun | 21 => 21 | 4 => 4 | 3 => 3 | 162 => 165 | 203 => 163 | 160 => 172 | 46 => 142 | 0 => 0 | 208 => 178 | 51 => 87 | 206 => 176 | n => n, fun | 13 => 8 | n => n⟩
theorem Tryz.lays203 : Go.Proofs.Lays.n203 Tryz.prog Tryz.lays203_ren := {
  mixed := by kernel_rfl
  f203 := Tryz.func71.trans (congrArg some (by kernel_rfl))
  f262 := Tryz.func95.trans (congrArg some (by kernel_rfl))
  f274 := Tryz.func108.trans (congrArg some (by kernel_rfl))
  f275 := Tryz.func109.trans (congrArg some (by kernel_rfl))
  f313 := Tryz.func106.trans (congrArg some (by kernel_rfl))
  t0 := Tryz.underlying0
  a0 := Tryz.isAgg0
  z0 := Tryz.sizeOf0
  v0 := Tryz.zeroValue0
  t3 := Tryz.underlying3
  a3 := Tryz.isAgg3
  z3 := Tryz.sizeOf3
  v3 := Tryz.zeroValue3
  t4 := Tryz.underlying4
  a4 := Tryz.isAgg4
  z4 := Tryz.sizeOf4
  v4 := Tryz.zeroValue4
  t21 := Tryz.underlying21
  a21 := Tryz.isAgg21
  z21 := Tryz.sizeOf21
  v21 := Tryz.zeroValue21
  t46 := Tryz.underlying142
  a46 := Tryz.isAgg142
  z46 := Tryz.sizeOf142
  v46 := Tryz.zeroValue142
  t51 := Tryz.underlying87
  a51 := Tryz.isAgg87
  z51 := Tryz.sizeOf87
  v51 := Tryz.zeroValue87
  t160 := Tryz.underlying172
  a160 := Tryz.isAgg172
  z160 := Tryz.sizeOf172
  v160 := Tryz.zeroValue172
  t162 := Tryz.underlying165
  a162 := Tryz.isAgg165
  z162 := Tryz.sizeOf165
  v162 := Tryz.zeroValue165
  t203 := Tryz.underlying163
  a203 := Tryz.isAgg163
  z203 := Tryz.sizeOf163
  v203 := Tryz.zeroValue163
  t206 := Tryz.underlying176
  a206 := Tryz.isAgg176
  z206 := Tryz.sizeOf176
  v206 := Tryz.zeroValue176
  t208 := Tryz.underlying178
  a208 := Tryz.isAgg178
  z208 := Tryz.sizeOf178
  v208 := Tryz.zeroValue178
  g13 := by kernel_rfl }
open Go.RowKit Go.Lib in
theorem Tryz.unicode_ToUpper (r : Int) (w : World) (h : r ≤ 127) :
    Calls Tryz.prog 71 #[.int .i32 r] w fun e w' => e = .returned (.int .i32 (Lib.toUpperR r)) ∧ w' = w := Any.unicode_ToUpper Tryz.lays203 r w h
def Tryz.lays197_ren : Go.Shelf.Ren := ⟨fun | 197 => 91 | 260 => 105 | n => n, fun | 9 => 9 | 21 => 21 | 3 => 3 | 4 => 4 | 5 => 5 | 105 => 152 | 119 => 168 | 0 => 0 | 46 => 142 | 139 => 171 | 138 => 170 | n => n, fun | 3 => 11 | 4 => 12 | n => n⟩
theorem Tryz.lays197 : Go.Proofs.Lays.n197 Tryz.prog Tryz.lays197_ren := {
  mixed := by kernel_rfl
  f197 := Tryz.func91.trans (congrArg some (by kernel_rfl))
  f260 := Tryz.func105.trans (congrArg some (by kernel_rfl))
  t0 := Tryz.underlying0
  a0 := Tryz.isAgg0
  z0 := Tryz.sizeOf0
  v0 := Tryz.zeroValue0
  t3 := Tryz.underlying3
  a3 := Tryz.isAgg3
  z3 := Tryz.sizeOf3
  v3 := Tryz.zeroValue3
  t4 := Tryz.underlying4
  a4 := Tryz.isAgg4
  z4 := Tryz.sizeOf4
  v4 := Tryz.zeroValue4
  t5 := Tryz.underlying5
  a5 := Tryz.isAgg5
  z5 := Tryz.sizeOf5
  v5 := Tryz.zeroValue5
  t9 := Tryz.underlying9
  a9 := Tryz.isAgg9
  z9 := Tryz.sizeOf9
  v9 := Tryz.zeroValue9
  t21 := Tryz.underlying21
  a21 := Tryz.isAgg21
  z21 := Tryz.sizeOf21
  v21 := Tryz.zeroValue21
  t46 := Tryz.underlying142
  a46 := Tryz.isAgg142
  z46 := Tryz.sizeOf142
  v46 := Tryz.zeroValue142
  t105 := Tryz.underlying152
  a105 := Tryz.isAgg152
  z105 := Tryz.sizeOf152
  v105 := Tryz.zeroValue152
  t119 := Tryz.underlying168
  a119 := Tryz.isAgg168
  z119 := Tryz.sizeOf168
  t138 := Tryz.underlying170
  a138 := Tryz.isAgg170
  z138 := Tryz.sizeOf170
  v138 := Tryz.zeroValue170
  t139 := Tryz.underlying171
  a139 := Tryz.isAgg171
  z139 := Tryz.sizeOf171
  v139 := Tryz.zeroValue171
  g3 := by kernel_rfl
  g4 := by kernel_rfl }
open Go.RowKit Go.Lib in
/-- unicode/utf8.DecodeRuneInString: "DecodeRuneInString is like DecodeRune but its input is a string.": ("DecodeRune unpacks the first UTF-8 encoding in p and returns the rune and its width in bytes."): WHERE s BEGINS WITH AN ASCII BYTE x: (x, 1). (LAID: no walk: one application.) -/
theorem Tryz.utf8_DecodeRuneInString_ascii (s : ByteArray) (x : UInt8) (w : World) (h0 : s.data.toList[0]? = some x) (hx : x.toNat < 128) :
    Calls Tryz.prog 91 #[.string s] w fun e w' => e = .returned (.tuple #[.int .i32 x.toNat, .int .i64 1]) ∧ w' = w := Any.utf8_DecodeRuneInString_ascii Tryz.lays197 s x w h0 hx
def Tryz.lays260_ren : Go.Shelf.Ren := ⟨fun | 260 => 105 | n => n, fun | 9 => 9 | 21 => 21 | 3 => 3 | 4 => 4 | 5 => 5 | 119 => 168 | 0 => 0 | 46 => 142 | 139 => 171 | 138 => 170 | n => n, fun | 3 => 11 | 4 => 12 | n => n⟩
theorem Tryz.lays260 : Go.Proofs.Lays.n260 Tryz.prog Tryz.lays260_ren := {
  mixed := by kernel_rfl
  f260 := Tryz.func105.trans (congrArg some (by kernel_rfl))
  t0 := Tryz.underlying0
  a0 := Tryz.isAgg0
  z0 := Tryz.sizeOf0
  v0 := Tryz.zeroValue0
  t3 := Tryz.underlying3
  a3 := Tryz.isAgg3
  z3 := Tryz.sizeOf3
  v3 := Tryz.zeroValue3
  t4 := Tryz.underlying4
  a4 := Tryz.isAgg4
  z4 := Tryz.sizeOf4
  v4 := Tryz.zeroValue4
  t5 := Tryz.underlying5
  a5 := Tryz.isAgg5
  z5 := Tryz.sizeOf5
  v5 := Tryz.zeroValue5
  t9 := Tryz.underlying9
  a9 := Tryz.isAgg9
  z9 := Tryz.sizeOf9
  v9 := Tryz.zeroValue9
  t21 := Tryz.underlying21
  a21 := Tryz.isAgg21
  z21 := Tryz.sizeOf21
  v21 := Tryz.zeroValue21
  t46 := Tryz.underlying142
  a46 := Tryz.isAgg142
  z46 := Tryz.sizeOf142
  v46 := Tryz.zeroValue142
  t119 := Tryz.underlying168
  a119 := Tryz.isAgg168
  z119 := Tryz.sizeOf168
  t138 := Tryz.underlying170
  a138 := Tryz.isAgg170
  z138 := Tryz.sizeOf170
  v138 := Tryz.zeroValue170
  t139 := Tryz.underlying171
  a139 := Tryz.isAgg171
  z139 := Tryz.sizeOf171
  v139 := Tryz.zeroValue171
  g3 := by kernel_rfl
  g4 := by kernel_rfl }
open Go.RowKit Go.Lib in
theorem Tryz.utf8_decodeRuneInStringSlow (s : ByteArray) (w : World) (hT : Lib.Utf8Tabs 11 12 w) :
    Calls Tryz.prog 105 #[.string s] w fun e w' => e = .returned (.tuple #[.int .i32 (Lib.decodeGo s).1, .int .i64 (Lib.decodeGo s).2]) ∧ Below w.heap.size w w' := Any.utf8_decodeRuneInStringSlow Tryz.lays260 s w hT
open Go.RowKit Go.Lib in
/-- **unicode/utf8.DecodeRuneInString AT EVERY STRING.** (LAID: no walk: one application.) -/
theorem Tryz.utf8_DecodeRuneInString (s : ByteArray) (w : World) (hT : Lib.Utf8Tabs 11 12 w) :
    Calls Tryz.prog 91 #[.string s] w fun e w' => e = .returned (.tuple #[.int .i32 (Lib.decodeGo s).1, .int .i64 (Lib.decodeGo s).2]) ∧ Below w.heap.size w w' := Any.utf8_DecodeRuneInString Tryz.lays197 s w hT
def Tryz.lays274_ren : Go.Shelf.Ren := ⟨fun | 274 => 108 | n => n, fun | 21 => 21 | 162 => 165 | 160 => 172 | 3 => 3 | 4 => 4 | 46 => 142 | 0 => 0 | 208 => 178 | 51 => 87 | 206 => 176 | n => n, fun | n => n⟩
theorem Tryz.lays274 : Go.Proofs.Lays.n274 Tryz.prog Tryz.lays274_ren := {
  mixed := by kernel_rfl
  f274 := Tryz.func108.trans (congrArg some (by kernel_rfl))
  t0 := Tryz.underlying0
  a0 := Tryz.isAgg0
  z0 := Tryz.sizeOf0
  v0 := Tryz.zeroValue0
  t3 := Tryz.underlying3
  a3 := Tryz.isAgg3
  z3 := Tryz.sizeOf3
  v3 := Tryz.zeroValue3
  t4 := Tryz.underlying4
  a4 := Tryz.isAgg4
  z4 := Tryz.sizeOf4
  v4 := Tryz.zeroValue4
  t21 := Tryz.underlying21
  a21 := Tryz.isAgg21
  z21 := Tryz.sizeOf21
  v21 := Tryz.zeroValue21
  t46 := Tryz.underlying142
  a46 := Tryz.isAgg142
  z46 := Tryz.sizeOf142
  v46 := Tryz.zeroValue142
  t51 := Tryz.underlying87
  a51 := Tryz.isAgg87
  z51 := Tryz.sizeOf87
  v51 := Tryz.zeroValue87
  t160 := Tryz.underlying172
  a160 := Tryz.isAgg172
  z160 := Tryz.sizeOf172
  v160 := Tryz.zeroValue172
  t162 := Tryz.underlying165
  a162 := Tryz.isAgg165
  z162 := Tryz.sizeOf165
  v162 := Tryz.zeroValue165
  t208 := Tryz.underlying178
  a208 := Tryz.isAgg178
  z208 := Tryz.sizeOf178
  v208 := Tryz.zeroValue178 }
open Go.RowKit Go.Lib in
theorem Tryz.unicode_lookupCaseRange (T : Array CaseRow) (R oR cap : Nat) (r : Int) (w : World) (hT : CaseTab R oR T w) (hok : CaseOk T) (hn : T.size ≤ 1000000000) :
    Calls Tryz.prog 108 #[.int .i32 r, .slice (some ⟨R, oR, none⟩) T.size cap] w fun e w' =>
      e = .returned (match lookupIdx T r (T.size + 1) 0 T.size with | some i => .pointer (some ⟨R, oR + i * 5, none⟩) | none => .pointer none) ∧ w' = w := Any.unicode_lookupCaseRange Tryz.lays274 T R oR cap r w hT hok hn
def Tryz.lays275_ren : Go.Shelf.Ren := ⟨fun | 275 => 109 | n => n, fun | 3 => 3 | 21 => 21 | 160 => 172 | 0 => 0 | 208 => 178 | 206 => 176 | 4 => 4 | 51 => 87 | n => n, fun | n => n⟩
theorem Tryz.lays275 : Go.Proofs.Lays.n275 Tryz.prog Tryz.lays275_ren := {
  mixed := by kernel_rfl
  f275 := Tryz.func109.trans (congrArg some (by kernel_rfl))
  t0 := Tryz.underlying0
  a0 := Tryz.isAgg0
  z0 := Tryz.sizeOf0
  v0 := Tryz.zeroValue0
  t3 := Tryz.underlying3
  a3 := Tryz.isAgg3
  z3 := Tryz.sizeOf3
  v3 := Tryz.zeroValue3
  t4 := Tryz.underlying4
  a4 := Tryz.isAgg4
  z4 := Tryz.sizeOf4
  v4 := Tryz.zeroValue4
  t21 := Tryz.underlying21
  a21 := Tryz.isAgg21
  z21 := Tryz.sizeOf21
  v21 := Tryz.zeroValue21
  t51 := Tryz.underlying87
  a51 := Tryz.isAgg87
  z51 := Tryz.sizeOf87
  v51 := Tryz.zeroValue87
  t160 := Tryz.underlying172
  a160 := Tryz.isAgg172
  z160 := Tryz.sizeOf172
  v160 := Tryz.zeroValue172
  t206 := Tryz.underlying176
  a206 := Tryz.isAgg176
  z206 := Tryz.sizeOf176
  v206 := Tryz.zeroValue176
  t208 := Tryz.underlying178
  a208 := Tryz.isAgg178
  z208 := Tryz.sizeOf178
  v208 := Tryz.zeroValue178 }
open Go.RowKit Go.Lib in
theorem Tryz.unicode_convertCase (c : Nat) (hc : c < 3) (r : Int) (A o : Nat) (x : CaseRow) (w : World) (hlo : (x.1 : Int) ≤ r) (hhi : r ≤ (x.2.1 : Int)) (hH : x.2.1 < 2147483647) (c0 : w.cell? ⟨A, o, none⟩ = some (.int .u32 x.1)) (cD : w.cell? ⟨A, o + 2 + c, none⟩ = some (.int .i32 (x.delta c))) :
    Calls Tryz.prog 109 #[.int .i64 c, .int .i32 r, .pointer (some ⟨A, o, none⟩)] w fun e w' => e = .returned (.int .i32 (wrap32 (convertR c r x))) ∧ ∃ q, w' = w.drewN q := Any.unicode_convertCase Tryz.lays275 c hc r A o x w hlo hhi hH c0 cD
def Tryz.lays313_ren : Go.Shelf.Ren := ⟨fun | 313 => 106 | 274 => 108 | 275 => 109 | n => n, fun | 3 => 3 | 21 => 21 | 162 => 165 | 4 => 4 | 160 => 172 | 46 => 142 | 0 => 0 | 208 => 178 | 51 => 87 | 206 => 176 | n => n, fun | n => n⟩
theorem Tryz.lays313 : Go.Proofs.Lays.n313 Tryz.prog Tryz.lays313_ren := {
  mixed := by kernel_rfl
  f274 := Tryz.func108.trans (congrArg some (by kernel_rfl))
  f275 := Tryz.func109.trans (congrArg some (by kernel_rfl))
  f313 := Tryz.func106.trans (congrArg some (by kernel_rfl))
  t0 := Tryz.underlying0
  a0 := Tryz.isAgg0
  z0 := Tryz.sizeOf0
  v0 := Tryz.zeroValue0
  t3 := Tryz.underlying3
  a3 := Tryz.isAgg3
  z3 := Tryz.sizeOf3
  v3 := Tryz.zeroValue3
  t4 := Tryz.underlying4
  a4 := Tryz.isAgg4
  z4 := Tryz.sizeOf4
  v4 := Tryz.zeroValue4
  t21 := Tryz.underlying21
  a21 := Tryz.isAgg21
  z21 := Tryz.sizeOf21
  v21 := Tryz.zeroValue21
  t46 := Tryz.underlying142
  a46 := Tryz.isAgg142
  z46 := Tryz.sizeOf142
  v46 := Tryz.zeroValue142
  t51 := Tryz.underlying87
  a51 := Tryz.isAgg87
  z51 := Tryz.sizeOf87
  v51 := Tryz.zeroValue87
  t160 := Tryz.underlying172
  a160 := Tryz.isAgg172
  z160 := Tryz.sizeOf172
  v160 := Tryz.zeroValue172
  t162 := Tryz.underlying165
  a162 := Tryz.isAgg165
  z162 := Tryz.sizeOf165
  v162 := Tryz.zeroValue165
  t206 := Tryz.underlying176
  a206 := Tryz.isAgg176
  z206 := Tryz.sizeOf176
  v206 := Tryz.zeroValue176
  t208 := Tryz.underlying178
  a208 := Tryz.isAgg178
  z208 := Tryz.sizeOf178
  v208 := Tryz.zeroValue178 }
open Go.RowKit Go.Lib in
theorem Tryz.unicode_to (c : Nat) (hc : c < 3) (r : Int) (T : Array CaseRow) (R oR cap : Nat) (w : World) (hT : CaseTab R oR T w) (hok : CaseOk2 T) (hn : T.size ≤ 1000000000) :
    Calls Tryz.prog 106 #[.int .i64 c, .int .i32 r, .slice (some ⟨R, oR, none⟩) T.size cap] w fun e w' => e = .returned (.tuple #[.int .i32 (toW T c r), .bool (lookupIdx T r (T.size + 1) 0 T.size).isSome]) ∧ ∃ q, w' = w.drewN q := Any.unicode_to Tryz.lays313 c hc r T R oR cap w hT hok hn
def Tryz.lays262_ren : Go.Shelf.Ren := ⟨fun | 262 => 95 | 313 => 106 | 274 => 108 | 275 => 109 | n => n, fun | 3 => 3 | 21 => 21 | 162 => 165 | 203 => 163 | 4 => 4 | 160 => 172 | 46 => 142 | 0 => 0 | 208 => 178 | 51 => 87 | 206 => 176 | n => n, fun | 13 => 8 | n => n⟩
theorem Tryz.lays262 : Go.Proofs.Lays.n262 Tryz.prog Tryz.lays262_ren := {
  mixed := by kernel_rfl
  f262 := Tryz.func95.trans (congrArg some (by kernel_rfl))
  f274 := Tryz.func108.trans (congrArg some (by kernel_rfl))
  f275 := Tryz.func109.trans (congrArg some (by kernel_rfl))
  f313 := Tryz.func106.trans (congrArg some (by kernel_rfl))
  t0 := Tryz.underlying0
  a0 := Tryz.isAgg0
  z0 := Tryz.sizeOf0
  v0 := Tryz.zeroValue0
  t3 := Tryz.underlying3
  a3 := Tryz.isAgg3
  z3 := Tryz.sizeOf3
  v3 := Tryz.zeroValue3
  t4 := Tryz.underlying4
  a4 := Tryz.isAgg4
  z4 := Tryz.sizeOf4
  v4 := Tryz.zeroValue4
  t21 := Tryz.underlying21
  a21 := Tryz.isAgg21
  z21 := Tryz.sizeOf21
  v21 := Tryz.zeroValue21
  t46 := Tryz.underlying142
  a46 := Tryz.isAgg142
  z46 := Tryz.sizeOf142
  v46 := Tryz.zeroValue142
  t51 := Tryz.underlying87
  a51 := Tryz.isAgg87
  z51 := Tryz.sizeOf87
  v51 := Tryz.zeroValue87
  t160 := Tryz.underlying172
  a160 := Tryz.isAgg172
  z160 := Tryz.sizeOf172
  v160 := Tryz.zeroValue172
  t162 := Tryz.underlying165
  a162 := Tryz.isAgg165
  z162 := Tryz.sizeOf165
  v162 := Tryz.zeroValue165
  t203 := Tryz.underlying163
  a203 := Tryz.isAgg163
  z203 := Tryz.sizeOf163
  v203 := Tryz.zeroValue163
  t206 := Tryz.underlying176
  a206 := Tryz.isAgg176
  z206 := Tryz.sizeOf176
  v206 := Tryz.zeroValue176
  t208 := Tryz.underlying178
  a208 := Tryz.isAgg178
  z208 := Tryz.sizeOf178
  v208 := Tryz.zeroValue178
  g13 := by kernel_rfl }
open Go.RowKit Go.Lib in
theorem Tryz.unicode_To (c : Nat) (hc : c < 3) (r : Int) (T : Array CaseRow) (w : World) (hV : CaseVar 8 T w) (hok : CaseOk2 T) (hn : T.size ≤ 1000000000) :
    Calls Tryz.prog 95 #[.int .i64 c, .int .i32 r] w fun e w' => e = .returned (.int .i32 (toW T c r)) ∧ ∃ q, w' = w.drewN q := Any.unicode_To Tryz.lays262 c hc r T w hV hok hn
open Go.RowKit Go.Lib in
theorem Tryz.unicode_ToUpper_any (r : Int) (T : Array CaseRow) (w : World) (hV : CaseVar 8 T w) (hok : CaseOk2 T) (hn : T.size ≤ 1000000000) :
    Calls Tryz.prog 71 #[.int .i32 r] w fun e w' => e = .returned (.int .i32 (Lib.toUpperW T r)) ∧ ∃ q, w' = w.drewN q := Any.unicode_ToUpper_any Tryz.lays203 r T w hV hok hn
open Go.RowKit Go.Lib in
theorem Tryz.unicode_ToUpper_laid (r : Int) (w : World) (hV : CaseVar 8 caseA w) :
    Calls Tryz.prog 71 #[.int .i32 r] w fun e w' => e = .returned (.int .i32 (toUpperU r)) ∧ ∃ q, w' = w.drewN q := Any.unicode_ToUpper_laid Tryz.lays203 r w hV
end Go.Proofs
