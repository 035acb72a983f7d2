/-
  DERIVED: THE SHELF's CONTRACTS AT THIS DUMP, IN PLAIN WORDS (tools/lay-plain.mjs out of 'YtipkpgmgjdfgoaaDoorShelf.lean', which tools/lay-shelf.mjs wrote): THE SAME DECLARATIONS UNDER THE SAME NAMES: 'import', 'namespace', 'open', 'def', 'theorem' AND NOTHING ELSE: no command of the shelf's: FOR A HAND-IN. Each laying: the table of numbers ('.._ren') and one theorem, a field a fact of the dump's own or the kernel's comparison; each contract: ONE APPLICATION.
-/
import Derived.Shelf.Strings.Builder1
import Derived.Shelf.Strings.Builder2
import Derived.Shelf.Strings.OnBuilder
import Derived.Shelf.Strings.TrimSpace
import Derived.Shelf.Small.Utf8
import Derived.Shelf.Strconv.Itoa0
import Derived.Shelf.Strconv.Itoa1
import Derived.Shelf.LaysM
import Derived.Shelf.Strconv.Itoa2
import Derived.Shelf.Strconv.Itoa3
import Derived.Shelf.Strings.Fold
import Derived.Shelf.Unicode.Latin
import Derived.Shelf.Unicode.DecodeSlow
import Derived.Shelf.Unicode.Is16White
import Derived.Shelf.Unicode.IsSpaceAny
import Derived.Shelf.Unicode.CaseLookup
import Derived.Shelf.Unicode.CaseConvert
import Derived.Shelf.Unicode.CaseTo
import Derived.Shelf.Unicode.CaseLaid
import Derived.Shelf.Unicode.Is16Any
import Derived.Shelf.Unicode.Is32Any
import Derived.Shelf.Unicode.ExclAny
import Derived.Shelf.Slices.Turned
import Derived.Test.YtipkpgmgjdfgoaaDoorProg
namespace Go.Proofs
open Go.Shelf
def Tryd.lays169_ren : Go.Shelf.Ren := ⟨fun | 169 => 73 | n => n, fun | 70 => 91 | 9 => 9 | 0 => 0 | 72 => 93 | 37 => 43 | 127 => 113 | 3 => 3 | 5 => 5 | n => n, fun | n => n⟩
theorem Tryd.lays169 : Go.Proofs.Lays.n169 Tryd.prog Tryd.lays169_ren := {
  mixed := by kernel_rfl
  f169 := Tryd.func73.trans (congrArg some (by kernel_rfl))
  t0 := Tryd.underlying0
  a0 := Tryd.isAgg0
  z0 := Tryd.sizeOf0
  v0 := Tryd.zeroValue0
  t3 := Tryd.underlying3
  a3 := Tryd.isAgg3
  z3 := Tryd.sizeOf3
  v3 := Tryd.zeroValue3
  t9 := Tryd.underlying9
  a9 := Tryd.isAgg9
  z9 := Tryd.sizeOf9
  v9 := Tryd.zeroValue9
  t37 := Tryd.underlying43
  a37 := Tryd.isAgg43
  z37 := Tryd.sizeOf43
  v37 := Tryd.zeroValue43
  t70 := Tryd.underlying91
  a70 := Tryd.isAgg91
  z70 := Tryd.sizeOf91
  v70 := Tryd.zeroValue91
  t72 := Tryd.underlying93
  a72 := Tryd.isAgg93
  z72 := Tryd.sizeOf93
  v72 := Tryd.zeroValue93
  t127 := Tryd.underlying113
  a127 := Tryd.isAgg113
  z127 := Tryd.sizeOf113
  v127 := Tryd.zeroValue113 }
theorem Tryd.Builder_Extra_169 : Builder.Extra Tryd.prog Tryd.lays169_ren := {
  sizeBuilder := by kernel_rfl
  liesBuilder := by kernel_rfl
  t5 := Tryd.underlying5
  a5 := Tryd.isAgg5
  z5 := Tryd.sizeOf5
  v5 := Tryd.zeroValue5
  infoByte := by kernel_rfl
  cellsByte := by kernel_rfl
  sizeByte := by kernel_rfl
  neB5 := by decide }
open Go.RowKit in
/-- (*strings.Builder).String: "String returns the accumulated string.": OF A BUILDER THAT HOLDS AT LEAST ONE BYTE. ✋ THE MODEL FREEZES THOSE BYTES IN THE BUFFER (unsafe.String): a later write INTO them ends the model's run without an answer; a later append BEHIND them goes on. The statement's order of evaluation is drawn: one draw. (LAID: no walk: one application.) -/
theorem Tryd.Builder_String (B b : Nat) (l : List UInt8) (w : World) (h : Lib.IsBuilder 93 5 B b (Lib.byteCells l) w) (h0 : l ≠ []) :
    Calls Tryd.prog 73 #[.pointer (some ⟨b, 0, none⟩)] w fun e w' => e = .returned (.string ⟨l.toArray⟩) ∧ Below B w w' := Any.Builder_String Tryd.lays169 Tryd.Builder_Extra_169 B b l w h h0
open Go.RowKit in
/-- (*strings.Builder).String OF A BUILDER THAT HOLDS NO BYTE: the empty string. (Its buffer is nil, or a row of which it has taken nothing yet; where that row has NO capacity the model lays one new block for unsafe.SliceData's 'some address'.) One draw. (LAID: no walk: one application.) -/
theorem Tryd.Builder_String_empty (B b : Nat) (w : World) (h : Lib.IsBuilder 93 5 B b [] w) (hBw : B ≤ w.heap.size) :
    Calls Tryd.prog 73 #[.pointer (some ⟨b, 0, none⟩)] w fun e w' => e = .returned (.string ⟨#[]⟩) ∧ Below B w w' := Any.Builder_String_empty Tryd.lays169 Tryd.Builder_Extra_169 B b w h hBw
open Go.RowKit in
/-- (*strings.Builder).String: "String returns the accumulated string.": WHATEVER THE BUILDER HOLDS. (LAID: no walk: one application.) -/
theorem Tryd.Builder_String_any (B b : Nat) (l : List UInt8) (w : World) (h : Lib.IsBuilder 93 5 B b (Lib.byteCells l) w) (hBw : B ≤ w.heap.size) :
    Calls Tryd.prog 73 #[.pointer (some ⟨b, 0, none⟩)] w fun e w' => e = .returned (.string ⟨l.toArray⟩) ∧ Below B w w' := Any.Builder_String_any Tryd.lays169 Tryd.Builder_Extra_169 B b l w h hBw
def Tryd.lays241_ren : Go.Shelf.Ren := ⟨fun | 241 => 86 | 277 => 103 | n => n, fun | 70 => 91 | 3 => 3 | 0 => 0 | 72 => 93 | 37 => 43 | 5 => 5 | n => n, fun | n => n⟩
theorem Tryd.lays241 : Go.Proofs.Lays.n241 Tryd.prog Tryd.lays241_ren := {
  mixed := by kernel_rfl
  f241 := Tryd.func86.trans (congrArg some (by kernel_rfl))
  f277 := Tryd.func103.trans (congrArg some (by kernel_rfl))
  t0 := Tryd.underlying0
  a0 := Tryd.isAgg0
  z0 := Tryd.sizeOf0
  v0 := Tryd.zeroValue0
  t3 := Tryd.underlying3
  a3 := Tryd.isAgg3
  z3 := Tryd.sizeOf3
  v3 := Tryd.zeroValue3
  t37 := Tryd.underlying43
  a37 := Tryd.isAgg43
  z37 := Tryd.sizeOf43
  v37 := Tryd.zeroValue43
  t70 := Tryd.underlying91
  a70 := Tryd.isAgg91
  z70 := Tryd.sizeOf91
  v70 := Tryd.zeroValue91
  t72 := Tryd.underlying93
  a72 := Tryd.isAgg93
  z72 := Tryd.sizeOf93
  v72 := Tryd.zeroValue93 }
theorem Tryd.Builder_Extra_241 : Builder.Extra Tryd.prog Tryd.lays241_ren := {
  sizeBuilder := by kernel_rfl
  liesBuilder := by kernel_rfl
  t5 := Tryd.underlying5
  a5 := Tryd.isAgg5
  z5 := Tryd.sizeOf5
  v5 := Tryd.zeroValue5
  infoByte := by kernel_rfl
  cellsByte := by kernel_rfl
  sizeByte := by kernel_rfl
  neB5 := by decide }
open Go.RowKit in
/-- (*strings.Builder).grow (no doc but "grow copies the buffer to a new, larger buffer so that there are at least n bytes of capacity beyond len(b.buf)."): AT A BUILDER WITHOUT A BUFFER: a new row of whatever bytes for its buffer, none of them its own yet. Three draws. (LAID: no walk: one application.) -/
theorem Tryd.Builder_grow_fresh (B b n : Nat) (w : World) (hB : B ≤ b) (hbk : w.heap[b]? = some (.cells #[.pointer (some ⟨b, 0, none⟩), .slice none 0 0] 93 (0, 0))) (hBw : B ≤ w.heap.size) (hn : n ≤ 281474976710656) :
    Calls Tryd.prog 86 #[.pointer (some ⟨b, 0, none⟩), .int .i64 n] w fun e w' => e = .returned (.tuple #[]) ∧ (Lib.BuilderAt 93 5 B b (.pointer (some ⟨b, 0, none⟩)) [] w' ∧ Below B w w') := Any.Builder_grow_fresh Tryd.lays241 Tryd.Builder_Extra_241 B b n w hB hbk hBw hn
def Tryd.lays165_ren : Go.Shelf.Ren := ⟨fun | 165 => 70 | 240 => 85 | 241 => 86 | 276 => 102 | 277 => 103 | n => n, fun | 70 => 91 | 3 => 3 | 0 => 0 | 4 => 4 | 9 => 9 | 20 => 20 | 72 => 93 | 37 => 43 | 164 => 138 | 5 => 5 | n => n, fun | n => n⟩
theorem Tryd.lays165 : Go.Proofs.Lays.n165 Tryd.prog Tryd.lays165_ren := {
  mixed := by kernel_rfl
  f165 := Tryd.func70.trans (congrArg some (by kernel_rfl))
  f240 := Tryd.func85.trans (congrArg some (by kernel_rfl))
  f241 := Tryd.func86.trans (congrArg some (by kernel_rfl))
  f276 := Tryd.func102.trans (congrArg some (by kernel_rfl))
  f277 := Tryd.func103.trans (congrArg some (by kernel_rfl))
  t0 := Tryd.underlying0
  a0 := Tryd.isAgg0
  z0 := Tryd.sizeOf0
  v0 := Tryd.zeroValue0
  t3 := Tryd.underlying3
  a3 := Tryd.isAgg3
  z3 := Tryd.sizeOf3
  v3 := Tryd.zeroValue3
  t4 := Tryd.underlying4
  a4 := Tryd.isAgg4
  z4 := Tryd.sizeOf4
  v4 := Tryd.zeroValue4
  t9 := Tryd.underlying9
  a9 := Tryd.isAgg9
  z9 := Tryd.sizeOf9
  v9 := Tryd.zeroValue9
  t20 := Tryd.underlying20
  a20 := Tryd.isAgg20
  z20 := Tryd.sizeOf20
  v20 := Tryd.zeroValue20
  t37 := Tryd.underlying43
  a37 := Tryd.isAgg43
  z37 := Tryd.sizeOf43
  v37 := Tryd.zeroValue43
  t70 := Tryd.underlying91
  a70 := Tryd.isAgg91
  z70 := Tryd.sizeOf91
  v70 := Tryd.zeroValue91
  t72 := Tryd.underlying93
  a72 := Tryd.isAgg93
  z72 := Tryd.sizeOf93
  v72 := Tryd.zeroValue93
  t164 := Tryd.underlying138
  a164 := Tryd.isAgg138
  z164 := Tryd.sizeOf138
  v164 := Tryd.zeroValue138 }
theorem Tryd.Builder_Extra_165 : Builder.Extra Tryd.prog Tryd.lays165_ren := {
  sizeBuilder := by kernel_rfl
  liesBuilder := by kernel_rfl
  t5 := Tryd.underlying5
  a5 := Tryd.isAgg5
  z5 := Tryd.sizeOf5
  v5 := Tryd.zeroValue5
  infoByte := by kernel_rfl
  cellsByte := by kernel_rfl
  sizeByte := by kernel_rfl
  neB5 := by decide }
open Go.RowKit in
/-- (*strings.Builder).Grow AT A BUILDER THAT HAS NOT BEEN WRITTEN ('var b strings.Builder; b.Grow(n)'): "Grow grows b's capacity, if necessary, to guarantee space for another n bytes.": it holds no byte behind it as before it. (LAID: no walk: one application.) -/
theorem Tryd.Builder_Grow_fresh (B b n : Nat) (w : World) (hB : B ≤ b) (hbk : w.heap[b]? = some (.cells #[.pointer none, .slice none 0 0] 93 (0, 0))) (hBw : B ≤ w.heap.size) (hn : n ≤ 281474976710656) :
    Calls Tryd.prog 70 #[.pointer (some ⟨b, 0, none⟩), .int .i64 n] w fun e w' => e = .returned (.tuple #[]) ∧ (Lib.BuilderAt 93 5 B b (.pointer (some ⟨b, 0, none⟩)) [] w' ∧ Below B w w') := Any.Builder_Grow_fresh Tryd.lays165 Tryd.Builder_Extra_165 B b n w hB hbk hBw hn
def Tryd.lays158_ren : Go.Shelf.Ren := ⟨fun | 158 => 58 | 165 => 70 | 166 => 71 | 167 => 72 | 169 => 73 | 230 => 74 | 203 => 75 | 240 => 85 | 241 => 86 | 197 => 83 | 118 => 87 | 168 => 88 | 270 => 89 | 262 => 90 | 276 => 102 | 277 => 103 | 260 => 99 | 242 => 104 | 313 => 105 | 278 => 115 | 274 => 100 | 275 => 101 | n => n, fun | 9 => 9 | 4 => 4 | 3 => 3 | 5 => 5 | 72 => 93 | 0 => 0 | 76 => 97 | 75 => 96 | 107 => 101 | 70 => 91 | 20 => 20 | 37 => 43 | 127 => 113 | 21 => 21 | 105 => 111 | 164 => 138 | 162 => 136 | 203 => 142 | 119 => 108 | 46 => 110 | 139 => 163 | 138 => 162 | 51 => 126 | 160 => 134 | 208 => 167 | 206 => 165 | 80 => 75 | n => n, fun | 13 => 5 | 3 => 8 | 4 => 9 | n => n⟩
theorem Tryd.lays158 : Go.Proofs.Lays.n158 Tryd.prog Tryd.lays158_ren := {
  mixed := by kernel_rfl
  f118 := Tryd.func87.trans (congrArg some (by kernel_rfl))
  f158 := Tryd.func58.trans (congrArg some (by kernel_rfl))
  f165 := Tryd.func70.trans (congrArg some (by kernel_rfl))
  f166 := Tryd.func71.trans (congrArg some (by kernel_rfl))
  f167 := Tryd.func72.trans (congrArg some (by kernel_rfl))
  f168 := Tryd.func88.trans (congrArg some (by kernel_rfl))
  f169 := Tryd.func73.trans (congrArg some (by kernel_rfl))
  f197 := Tryd.func83.trans (congrArg some (by kernel_rfl))
  f203 := Tryd.func75.trans (congrArg some (by kernel_rfl))
  f230 := Tryd.func74.trans (congrArg some (by kernel_rfl))
  f240 := Tryd.func85.trans (congrArg some (by kernel_rfl))
  f241 := Tryd.func86.trans (congrArg some (by kernel_rfl))
  f242 := Tryd.func104.trans (congrArg some (by kernel_rfl))
  f260 := Tryd.func99.trans (congrArg some (by kernel_rfl))
  f262 := Tryd.func90.trans (congrArg some (by kernel_rfl))
  f270 := Tryd.func89.trans (congrArg some (by kernel_rfl))
  f274 := Tryd.func100.trans (congrArg some (by kernel_rfl))
  f275 := Tryd.func101.trans (congrArg some (by kernel_rfl))
  f276 := Tryd.func102.trans (congrArg some (by kernel_rfl))
  f277 := Tryd.func103.trans (congrArg some (by kernel_rfl))
  f278 := Tryd.func115.trans (congrArg some (by kernel_rfl))
  f313 := Tryd.func105.trans (congrArg some (by kernel_rfl))
  t0 := Tryd.underlying0
  a0 := Tryd.isAgg0
  z0 := Tryd.sizeOf0
  v0 := Tryd.zeroValue0
  t3 := Tryd.underlying3
  a3 := Tryd.isAgg3
  z3 := Tryd.sizeOf3
  v3 := Tryd.zeroValue3
  t4 := Tryd.underlying4
  a4 := Tryd.isAgg4
  z4 := Tryd.sizeOf4
  v4 := Tryd.zeroValue4
  t5 := Tryd.underlying5
  a5 := Tryd.isAgg5
  z5 := Tryd.sizeOf5
  v5 := Tryd.zeroValue5
  t9 := Tryd.underlying9
  a9 := Tryd.isAgg9
  z9 := Tryd.sizeOf9
  v9 := Tryd.zeroValue9
  t20 := Tryd.underlying20
  a20 := Tryd.isAgg20
  z20 := Tryd.sizeOf20
  v20 := Tryd.zeroValue20
  t21 := Tryd.underlying21
  a21 := Tryd.isAgg21
  z21 := Tryd.sizeOf21
  v21 := Tryd.zeroValue21
  t37 := Tryd.underlying43
  a37 := Tryd.isAgg43
  z37 := Tryd.sizeOf43
  v37 := Tryd.zeroValue43
  t46 := Tryd.underlying110
  a46 := Tryd.isAgg110
  z46 := Tryd.sizeOf110
  v46 := Tryd.zeroValue110
  t51 := Tryd.underlying126
  a51 := Tryd.isAgg126
  z51 := Tryd.sizeOf126
  v51 := Tryd.zeroValue126
  t70 := Tryd.underlying91
  a70 := Tryd.isAgg91
  z70 := Tryd.sizeOf91
  v70 := Tryd.zeroValue91
  t72 := Tryd.underlying93
  a72 := Tryd.isAgg93
  z72 := Tryd.sizeOf93
  v72 := Tryd.zeroValue93
  t75 := Tryd.underlying96
  a75 := Tryd.isAgg96
  z75 := Tryd.sizeOf96
  v75 := Tryd.zeroValue96
  t76 := Tryd.underlying97
  a76 := Tryd.isAgg97
  z76 := Tryd.sizeOf97
  v76 := Tryd.zeroValue97
  t105 := Tryd.underlying111
  a105 := Tryd.isAgg111
  z105 := Tryd.sizeOf111
  v105 := Tryd.zeroValue111
  t107 := Tryd.underlying101
  a107 := Tryd.isAgg101
  z107 := Tryd.sizeOf101
  v107 := Tryd.zeroValue101
  t119 := Tryd.underlying108
  a119 := Tryd.isAgg108
  z119 := Tryd.sizeOf108
  t127 := Tryd.underlying113
  a127 := Tryd.isAgg113
  z127 := Tryd.sizeOf113
  v127 := Tryd.zeroValue113
  t138 := Tryd.underlying162
  a138 := Tryd.isAgg162
  z138 := Tryd.sizeOf162
  v138 := Tryd.zeroValue162
  t139 := Tryd.underlying163
  a139 := Tryd.isAgg163
  z139 := Tryd.sizeOf163
  v139 := Tryd.zeroValue163
  t160 := Tryd.underlying134
  a160 := Tryd.isAgg134
  z160 := Tryd.sizeOf134
  v160 := Tryd.zeroValue134
  t162 := Tryd.underlying136
  a162 := Tryd.isAgg136
  z162 := Tryd.sizeOf136
  v162 := Tryd.zeroValue136
  t164 := Tryd.underlying138
  a164 := Tryd.isAgg138
  z164 := Tryd.sizeOf138
  v164 := Tryd.zeroValue138
  t203 := Tryd.underlying142
  a203 := Tryd.isAgg142
  z203 := Tryd.sizeOf142
  v203 := Tryd.zeroValue142
  t206 := Tryd.underlying165
  a206 := Tryd.isAgg165
  z206 := Tryd.sizeOf165
  v206 := Tryd.zeroValue165
  t208 := Tryd.underlying167
  a208 := Tryd.isAgg167
  z208 := Tryd.sizeOf167
  v208 := Tryd.zeroValue167
  g3 := by kernel_rfl
  g4 := by kernel_rfl
  g13 := by kernel_rfl }
theorem Tryd.Builder_Extra_158 : Builder.Extra Tryd.prog Tryd.lays158_ren := {
  sizeBuilder := by kernel_rfl
  liesBuilder := by kernel_rfl
  t5 := Tryd.underlying5
  a5 := Tryd.isAgg5
  z5 := Tryd.sizeOf5
  v5 := Tryd.zeroValue5
  infoByte := by kernel_rfl
  cellsByte := by kernel_rfl
  sizeByte := by kernel_rfl
  neB5 := by decide }
open Go.RowKit in
/-- strings.ToUpper: "ToUpper returns s with all Unicode letters mapped to their upper case.": ON ASCII TEXT OF AT MOST 2^47 BYTES. Below the heap's end the world is as it was: where a letter turns, the call makes a builder and its buffer. (LAID: no walk: one application.) -/
theorem Tryd.strings_ToUpper_ascii (s : ByteArray) (w : World) (hs : s.size ≤ 140737488355328) (hascii : ∀ (j : Nat) (b : UInt8), s.data.toList[j]? = some b → b.toNat < 128) :
    Calls Tryd.prog 58 #[.string s] w fun e w' => e = .returned (.string ⟨(Lib.toUpperA s.data.toList).toArray⟩) ∧ Below w.heap.size w w' := Any.strings_ToUpper_ascii Tryd.lays158 Tryd.Builder_Extra_158 s w hs hascii
def Tryd.lays163_ren : Go.Shelf.Ren := ⟨fun | 163 => 63 | 237 => 79 | 199 => 80 | 238 => 81 | 272 => 96 | 261 => 97 | 273 => 98 | 197 => 83 | 315 => 111 | 311 => 112 | 312 => 113 | 271 => 114 | 260 => 99 | 120 => 118 | n => n, fun | 9 => 9 | 37 => 43 | 3 => 3 | 0 => 0 | 5 => 5 | 4 => 4 | 40 => 107 | 119 => 108 | 21 => 21 | 51 => 126 | 141 => 128 | 105 => 111 | 196 => 154 | 193 => 151 | 198 => 156 | 49 => 40 | 194 => 152 | 201 => 159 | 226 => 169 | 46 => 110 | 227 => 170 | 139 => 163 | 138 => 162 | n => n, fun | 0 => 0 | 6 => 2 | 3 => 8 | 4 => 9 | n => n⟩
theorem Tryd.lays163 : Go.Proofs.Lays.n163 Tryd.prog Tryd.lays163_ren := {
  mixed := by kernel_rfl
  f120 := Tryd.func118.trans (congrArg some (by kernel_rfl))
  f163 := Tryd.func63.trans (congrArg some (by kernel_rfl))
  f197 := Tryd.func83.trans (congrArg some (by kernel_rfl))
  f199 := Tryd.func80.trans (congrArg some (by kernel_rfl))
  f237 := Tryd.func79.trans (congrArg some (by kernel_rfl))
  f238 := Tryd.func81.trans (congrArg some (by kernel_rfl))
  f260 := Tryd.func99.trans (congrArg some (by kernel_rfl))
  f261 := Tryd.func97.trans (congrArg some (by kernel_rfl))
  f271 := Tryd.func114.trans (congrArg some (by kernel_rfl))
  f272 := Tryd.func96.trans (congrArg some (by kernel_rfl))
  f273 := Tryd.func98.trans (congrArg some (by kernel_rfl))
  f311 := Tryd.func112.trans (congrArg some (by kernel_rfl))
  f312 := Tryd.func113.trans (congrArg some (by kernel_rfl))
  f315 := Tryd.func111.trans (congrArg some (by kernel_rfl))
  t0 := Tryd.underlying0
  a0 := Tryd.isAgg0
  z0 := Tryd.sizeOf0
  v0 := Tryd.zeroValue0
  t3 := Tryd.underlying3
  a3 := Tryd.isAgg3
  z3 := Tryd.sizeOf3
  v3 := Tryd.zeroValue3
  t4 := Tryd.underlying4
  a4 := Tryd.isAgg4
  z4 := Tryd.sizeOf4
  v4 := Tryd.zeroValue4
  t5 := Tryd.underlying5
  a5 := Tryd.isAgg5
  z5 := Tryd.sizeOf5
  v5 := Tryd.zeroValue5
  t9 := Tryd.underlying9
  a9 := Tryd.isAgg9
  z9 := Tryd.sizeOf9
  v9 := Tryd.zeroValue9
  t21 := Tryd.underlying21
  a21 := Tryd.isAgg21
  z21 := Tryd.sizeOf21
  v21 := Tryd.zeroValue21
  t37 := Tryd.underlying43
  a37 := Tryd.isAgg43
  z37 := Tryd.sizeOf43
  v37 := Tryd.zeroValue43
  t40 := Tryd.underlying107
  a40 := Tryd.isAgg107
  z40 := Tryd.sizeOf107
  v40 := Tryd.zeroValue107
  t46 := Tryd.underlying110
  a46 := Tryd.isAgg110
  z46 := Tryd.sizeOf110
  v46 := Tryd.zeroValue110
  t49 := Tryd.underlying40
  a49 := Tryd.isAgg40
  z49 := Tryd.sizeOf40
  v49 := Tryd.zeroValue40
  t51 := Tryd.underlying126
  a51 := Tryd.isAgg126
  z51 := Tryd.sizeOf126
  v51 := Tryd.zeroValue126
  t105 := Tryd.underlying111
  a105 := Tryd.isAgg111
  z105 := Tryd.sizeOf111
  v105 := Tryd.zeroValue111
  t119 := Tryd.underlying108
  a119 := Tryd.isAgg108
  z119 := Tryd.sizeOf108
  t138 := Tryd.underlying162
  a138 := Tryd.isAgg162
  z138 := Tryd.sizeOf162
  v138 := Tryd.zeroValue162
  t139 := Tryd.underlying163
  a139 := Tryd.isAgg163
  z139 := Tryd.sizeOf163
  v139 := Tryd.zeroValue163
  t141 := Tryd.underlying128
  a141 := Tryd.isAgg128
  z141 := Tryd.sizeOf128
  v141 := Tryd.zeroValue128
  t193 := Tryd.underlying151
  a193 := Tryd.isAgg151
  z193 := Tryd.sizeOf151
  v193 := Tryd.zeroValue151
  t194 := Tryd.underlying152
  a194 := Tryd.isAgg152
  z194 := Tryd.sizeOf152
  v194 := Tryd.zeroValue152
  t196 := Tryd.underlying154
  a196 := Tryd.isAgg154
  z196 := Tryd.sizeOf154
  v196 := Tryd.zeroValue154
  t198 := Tryd.underlying156
  a198 := Tryd.isAgg156
  z198 := Tryd.sizeOf156
  v198 := Tryd.zeroValue156
  t201 := Tryd.underlying159
  a201 := Tryd.isAgg159
  z201 := Tryd.sizeOf159
  v201 := Tryd.zeroValue159
  t226 := Tryd.underlying169
  a226 := Tryd.isAgg169
  z226 := Tryd.sizeOf169
  v226 := Tryd.zeroValue169
  t227 := Tryd.underlying170
  a227 := Tryd.isAgg170
  z227 := Tryd.sizeOf170
  v227 := Tryd.zeroValue170
  g0 := by kernel_rfl
  g3 := by kernel_rfl
  g4 := by kernel_rfl
  g6 := by kernel_rfl }
theorem Tryd.Space_Extra_163 : Space.Extra Tryd.prog Tryd.lays163_ren := {
  gNamed := by kernel_rfl }
open Go.RowKit in
theorem Tryd.strings_TrimSpace (s : ByteArray) (w : World) (hs : s.size ≤ 9223372036854775807) (hascii : ∀ (j : Nat) b, s.data.toList[j]? = some b → b.toNat < 128) (htab : Lib.TabIs Tryd.prog w "strings.asciiSpace" .u8 Lib.asciiSpaceTab) :
    Calls Tryd.prog 63 #[.string s] w fun e w' => e = .returned (.string ⟨(Lib.trimSpace s.data.toList).toArray⟩) ∧ w' = Lib.bytesWorld w 5 s := Any.strings_TrimSpace Tryd.lays163 Tryd.Space_Extra_163 s w hs hascii htab
def Tryd.lays118_ren : Go.Shelf.Ren := ⟨fun | 118 => 87 | n => n, fun | 21 => 21 | 3 => 3 | 4 => 4 | n => n, fun | n => n⟩
theorem Tryd.lays118 : Go.Proofs.Lays.n118 Tryd.prog Tryd.lays118_ren := {
  mixed := by kernel_rfl
  f118 := Tryd.func87.trans (congrArg some (by kernel_rfl))
  t3 := Tryd.underlying3
  a3 := Tryd.isAgg3
  z3 := Tryd.sizeOf3
  v3 := Tryd.zeroValue3
  t4 := Tryd.underlying4
  a4 := Tryd.isAgg4
  z4 := Tryd.sizeOf4
  v4 := Tryd.zeroValue4
  t21 := Tryd.underlying21
  a21 := Tryd.isAgg21
  z21 := Tryd.sizeOf21
  v21 := Tryd.zeroValue21 }
/-- utf8.RuneLen: "RuneLen returns the number of bytes in the UTF-8 encoding of the rune. It returns -1 if the rune is not a valid value to encode in UTF-8.": IT RETURNS 'Lib.runeLen r'; the world is as it was. (LAID: no walk: one application.) -/
theorem Tryd.utf8_RuneLen (r : Int) (w : World) :
    Calls Tryd.prog 87 #[.int .i32 r] w fun e w' => e = .returned (.int .i64 (Lib.runeLen r)) ∧ w' = w := Any.utf8_RuneLen Tryd.lays118 r w
def Tryd.lays120_ren : Go.Shelf.Ren := ⟨fun | 120 => 118 | n => n, fun | 5 => 5 | 4 => 4 | n => n, fun | n => n⟩
theorem Tryd.lays120 : Go.Proofs.Lays.n120 Tryd.prog Tryd.lays120_ren := {
  mixed := by kernel_rfl
  f120 := Tryd.func118.trans (congrArg some (by kernel_rfl))
  t4 := Tryd.underlying4
  a4 := Tryd.isAgg4
  z4 := Tryd.sizeOf4
  v4 := Tryd.zeroValue4
  t5 := Tryd.underlying5
  a5 := Tryd.isAgg5
  z5 := Tryd.sizeOf5
  v5 := Tryd.zeroValue5 }
/-- utf8.RuneStart: "RuneStart reports whether the byte could be the first byte of an encoded, possibly invalid rune. Second and subsequent bytes always have the top two bits set to 10.": IT RETURNS 'Lib.runeStart b'; the world is as it was. ('h0', 'h1': b is a byte: a caller has it of every byte that it was handed.) (LAID: no walk: one application.) -/
theorem Tryd.utf8_RuneStart (b : Int) (w : World) (h0 : 0 ≤ b) (h1 : b < 256) :
    Calls Tryd.prog 118 #[.int .u8 b] w fun e w' => e = .returned (.bool (Lib.runeStart b)) ∧ w' = w := Any.utf8_RuneStart Tryd.lays120 b w h0 h1
def Tryd.lays129_ren : Go.Shelf.Ren := ⟨fun | 129 => 107 | n => n, fun | 53 => 119 | 3 => 3 | 4 => 4 | 46 => 110 | 5 => 5 | 9 => 9 | n => n, fun | n => n⟩
theorem Tryd.lays129 : Go.Proofs.Lays.n129 Tryd.prog Tryd.lays129_ren := {
  mixed := by kernel_rfl
  f129 := Tryd.func107.trans (congrArg some (by kernel_rfl))
  t3 := Tryd.underlying3
  a3 := Tryd.isAgg3
  z3 := Tryd.sizeOf3
  v3 := Tryd.zeroValue3
  t4 := Tryd.underlying4
  a4 := Tryd.isAgg4
  z4 := Tryd.sizeOf4
  v4 := Tryd.zeroValue4
  t5 := Tryd.underlying5
  a5 := Tryd.isAgg5
  z5 := Tryd.sizeOf5
  v5 := Tryd.zeroValue5
  t9 := Tryd.underlying9
  a9 := Tryd.isAgg9
  z9 := Tryd.sizeOf9
  v9 := Tryd.zeroValue9
  t46 := Tryd.underlying110
  a46 := Tryd.isAgg110
  z46 := Tryd.sizeOf110
  v46 := Tryd.zeroValue110
  t53 := Tryd.underlying119
  a53 := Tryd.isAgg119
  z53 := Tryd.sizeOf119
  v53 := Tryd.zeroValue119 }
/-- bits.Len64: "Len64 returns the minimum number of bits required to represent x; the result is 0 for x == 0.": IT RETURNS 'Lib.bitLen x'; the world is as it was. ('h0', 'h1': x is a uint64.) (LAID: no walk: one application.) -/
theorem Tryd.bits_Len64 (x : Int) (w : World) (h0 : 0 ≤ x) (h1 : x ≤ 18446744073709551615) :
    Calls Tryd.prog 107 #[.int .u64 x] w fun e w' => e = .returned (.int .i64 (Lib.bitLen x.toNat)) ∧ w' = w := Any.bits_Len64 Tryd.lays129 x w h0 h1
def Tryd.lays317_ren : Go.Shelf.Ren := ⟨fun | 317 => 106 | n => n, fun | 3 => 3 | 46 => 110 | n => n, fun | n => n⟩
theorem Tryd.lays317 : Go.Proofs.Lays.n317 Tryd.prog Tryd.lays317_ren := {
  mixed := by kernel_rfl
  f317 := Tryd.func106.trans (congrArg some (by kernel_rfl))
  t3 := Tryd.underlying3
  a3 := Tryd.isAgg3
  z3 := Tryd.sizeOf3
  v3 := Tryd.zeroValue3
  t46 := Tryd.underlying110
  a46 := Tryd.isAgg110
  z46 := Tryd.sizeOf110
  v46 := Tryd.zeroValue110 }
open Go.Lib in
/-- internal/strconv.log10Pow2: "log10Pow2(x) returns ⌊log₁₀ 2**x⌋ = ⌊x * log₁₀ 2⌋.": '(x * 78913) >> 18', at an x up to 64 (a length in bits). The world is as it was. (LAID: no walk: one application.) -/
theorem Tryd.internal_strconv_log10Pow2 (x : Nat) (h : x ≤ 64) (w : World) :
    Calls Tryd.prog 106 #[.int .i64 x] w fun e w' => e = .returned (.int .i64 (Lib.l10 x)) ∧ w' = w := Any.internal_strconv_log10Pow2 Tryd.lays317 x h w
def Tryd.lays318_ren : Go.Shelf.Ren := ⟨fun | 318 => 108 | n => n, fun | 3 => 3 | 4 => 4 | n => n, fun | n => n⟩
theorem Tryd.lays318 : Go.Proofs.Lays.n318 Tryd.prog Tryd.lays318_ren := {
  mixed := by kernel_rfl
  f318 := Tryd.func108.trans (congrArg some (by kernel_rfl))
  t3 := Tryd.underlying3
  a3 := Tryd.isAgg3
  z3 := Tryd.sizeOf3
  v3 := Tryd.zeroValue3
  t4 := Tryd.underlying4
  a4 := Tryd.isAgg4
  z4 := Tryd.sizeOf4
  v4 := Tryd.zeroValue4 }
open Go.Lib in
/-- internal/strconv.bool2: "bool2 converts b to an integer: 1 for true, 0 for false." The world is as it was. (LAID: no walk: one application.) -/
theorem Tryd.internal_strconv_bool2_int (b : Bool) (w : World) :
    Calls Tryd.prog 108 #[.bool b] w fun e w' => e = .returned (.int .i64 (if b then 1 else 0)) ∧ w' = w := Any.internal_strconv_bool2_int Tryd.lays318 b w
def Tryd.lays283_ren : Go.Shelf.Ren := ⟨fun | 283 => 91 | n => n, fun | 3 => 3 | 9 => 9 | 4 => 4 | n => n, fun | n => n⟩
theorem Tryd.lays283 : Go.Proofs.Lays.n283 Tryd.prog Tryd.lays283_ren := {
  mixed := by kernel_rfl
  f283 := Tryd.func91.trans (congrArg some (by kernel_rfl))
  t3 := Tryd.underlying3
  a3 := Tryd.isAgg3
  z3 := Tryd.sizeOf3
  v3 := Tryd.zeroValue3
  t4 := Tryd.underlying4
  a4 := Tryd.isAgg4
  z4 := Tryd.sizeOf4
  v4 := Tryd.zeroValue4
  t9 := Tryd.underlying9
  a9 := Tryd.isAgg9
  z9 := Tryd.sizeOf9
  v9 := Tryd.zeroValue9 }
open Go.Lib in
/-- internal/strconv.small: "small returns the string for an i with 0 <= i < nSmalls.": i's decimal numeral. The world is as it was. (LAID: no walk: one application.) -/
theorem Tryd.internal_strconv_small (i : Nat) (h : i < 100) (w : World) :
    Calls Tryd.prog 91 #[.int .i64 i] w fun e w' => e = .returned (.string ⟨(Lib.decDigits i).toArray⟩) ∧ w' = w := Any.internal_strconv_small Tryd.lays283 i h w
def Tryd.laysM284_ren : Go.Shelf.Ren := ⟨fun | 284 => 92 | 129 => 107 | 317 => 106 | 318 => 108 | n => n, fun | 53 => 119 | 3 => 3 | 212 => 146 | 0 => 0 | 4 => 4 | 46 => 110 | 5 => 5 | 9 => 9 | n => n, fun | 17 => 6 | n => n⟩
theorem Tryd.laysM284 : Go.Proofs.LaysM.n284 Tryd.prog Tryd.laysM284_ren := {
  mixed := by kernel_rfl
  f129 := Tryd.func107.trans (congrArg some (by kernel_rfl))
  f284 := Tryd.func92.trans (congrArg some (by kernel_rfl))
  f317 := Tryd.func106.trans (congrArg some (by kernel_rfl))
  f318 := Tryd.func108.trans (congrArg some (by kernel_rfl))
  t0 := Tryd.underlying0
  a0 := Tryd.isAgg0
  z0 := Tryd.sizeOf0
  v0 := Tryd.zeroValue0
  t3 := Tryd.underlying3
  a3 := Tryd.isAgg3
  z3 := Tryd.sizeOf3
  v3 := Tryd.zeroValue3
  t4 := Tryd.underlying4
  a4 := Tryd.isAgg4
  z4 := Tryd.sizeOf4
  v4 := Tryd.zeroValue4
  t5 := Tryd.underlying5
  a5 := Tryd.isAgg5
  z5 := Tryd.sizeOf5
  v5 := Tryd.zeroValue5
  t9 := Tryd.underlying9
  a9 := Tryd.isAgg9
  z9 := Tryd.sizeOf9
  v9 := Tryd.zeroValue9
  t46 := Tryd.underlying110
  a46 := Tryd.isAgg110
  z46 := Tryd.sizeOf110
  v46 := Tryd.zeroValue110
  t53 := Tryd.underlying119
  a53 := Tryd.isAgg119
  z53 := Tryd.sizeOf119
  v53 := Tryd.zeroValue119
  t212 := Tryd.underlying146
  a212 := Tryd.isAgg146
  z212 := Tryd.sizeOf146
  v212 := Tryd.zeroValue146
  g17 := by kernel_rfl
  i0 := by kernel_rfl
  i3 := by kernel_rfl
  i4 := by kernel_rfl
  i5 := by kernel_rfl
  i9 := by kernel_rfl
  i46 := by kernel_rfl
  i53 := by kernel_rfl
  i212 := by kernel_rfl
  m17 := by kernel_rfl }
open Go.Lib in
/-- internal/strconv.numDigits, at a d that is not 0: THE NUMBER OF d's DECIMAL DIGITS. The world is as it was. (LAID: no walk: one application.) -/
theorem Tryd.internal_strconv_numDigits (u : Nat) (h1 : 1 ≤ u) (h2 : u < 18446744073709551616) (w : World) (htab : Lib.TabIs Tryd.prog w "internal/strconv.uint64pow10" .u64 Lib.pow10Tab) :
    Calls Tryd.prog 92 #[.int .u64 u] w fun e w' => e = .returned (.int .i64 (Lib.nDigits u)) ∧ w' = w := Any.internal_strconv_numDigits Tryd.laysM284 u h1 h2 w htab
def Tryd.lays285_ren : Go.Shelf.Ren := ⟨fun | 285 => 93 | n => n, fun | 37 => 43 | 53 => 119 | 3 => 3 | 4 => 4 | 51 => 126 | 9 => 9 | 5 => 5 | 0 => 0 | n => n, fun | n => n⟩
theorem Tryd.lays285 : Go.Proofs.Lays.n285 Tryd.prog Tryd.lays285_ren := {
  mixed := by kernel_rfl
  f285 := Tryd.func93.trans (congrArg some (by kernel_rfl))
  t0 := Tryd.underlying0
  a0 := Tryd.isAgg0
  z0 := Tryd.sizeOf0
  v0 := Tryd.zeroValue0
  t3 := Tryd.underlying3
  a3 := Tryd.isAgg3
  z3 := Tryd.sizeOf3
  v3 := Tryd.zeroValue3
  t4 := Tryd.underlying4
  a4 := Tryd.isAgg4
  z4 := Tryd.sizeOf4
  v4 := Tryd.zeroValue4
  t5 := Tryd.underlying5
  a5 := Tryd.isAgg5
  z5 := Tryd.sizeOf5
  v5 := Tryd.zeroValue5
  t9 := Tryd.underlying9
  a9 := Tryd.isAgg9
  z9 := Tryd.sizeOf9
  v9 := Tryd.zeroValue9
  t37 := Tryd.underlying43
  a37 := Tryd.isAgg43
  z37 := Tryd.sizeOf43
  v37 := Tryd.zeroValue43
  t51 := Tryd.underlying126
  a51 := Tryd.isAgg126
  z51 := Tryd.sizeOf126
  v51 := Tryd.zeroValue126
  t53 := Tryd.underlying119
  a53 := Tryd.isAgg119
  z53 := Tryd.sizeOf119
  v53 := Tryd.zeroValue119 }
open Go.RowKit Go.Sort Go.Lib in
/-- internal/strconv.formatBase10: "formatBase10 formats the decimal representation of u into a. The caller is responsible for ensuring that a is big enough to hold u. If a is too big, leading zeros will be filled in as needed.": THE ROW HOLDS u's DIGITS ('FmtInv .. 0 ..': every place t holds 'dg u (len - 1 - t)'); all else is as it was but for the count of draws. (LAID: no walk: one application.) -/
theorem Tryd.internal_strconv_formatBase10 (blk off cap : Nat) (u : Nat) (d : Array UInt8) (w : World) (hH : Holds (fun (b : UInt8) => Value.int .u8 (b.toNat : Int)) w blk off d) (hu : u < 10 ^ d.size) (hu64 : u < 18446744073709551616) (hsz : d.size < 4611686018427387904) :
    Calls Tryd.prog 93 #[.slice (some ⟨blk, off, none⟩) d.size cap, .int .u64 u] w fun e w' =>
      e = .returned (.tuple #[]) ∧ ∃ (n v' : Nat) (dk : Array UInt8), w' = (putRow (fun (b : UInt8) => Value.int .u8 (b.toNat : Int)) w blk off dk).drewN n ∧ FmtInv d.size u 0 v' dk := Any.internal_strconv_formatBase10 Tryd.lays285 blk off cap u d w hH hu hu64 hsz
def Tryd.laysM246_ren : Go.Shelf.Ren := ⟨fun | 246 => 77 | 283 => 91 | 284 => 92 | 285 => 93 | 286 => 94 | 129 => 107 | 317 => 106 | 318 => 108 | 319 => 109 | 320 => 110 | 337 => 116 | 338 => 117 | n => n, fun | 2 => 2 | 3 => 3 | 9 => 9 | 4 => 4 | 171 => 118 | 0 => 0 | 53 => 119 | 37 => 43 | 5 => 5 | 173 => 122 | 212 => 146 | 51 => 126 | 20 => 20 | 213 => 147 | 46 => 110 | 232 => 172 | 233 => 125 | n => n, fun | 17 => 6 | 18 => 10 | 19 => 11 | n => n⟩
theorem Tryd.laysM246 : Go.Proofs.LaysM.n246 Tryd.prog Tryd.laysM246_ren := {
  mixed := by kernel_rfl
  f129 := Tryd.func107.trans (congrArg some (by kernel_rfl))
  f246 := Tryd.func77.trans (congrArg some (by kernel_rfl))
  f283 := Tryd.func91.trans (congrArg some (by kernel_rfl))
  f284 := Tryd.func92.trans (congrArg some (by kernel_rfl))
  f285 := Tryd.func93.trans (congrArg some (by kernel_rfl))
  f286 := Tryd.func94.trans (congrArg some (by kernel_rfl))
  f317 := Tryd.func106.trans (congrArg some (by kernel_rfl))
  f318 := Tryd.func108.trans (congrArg some (by kernel_rfl))
  f319 := Tryd.func109.trans (congrArg some (by kernel_rfl))
  f320 := Tryd.func110.trans (congrArg some (by kernel_rfl))
  f337 := Tryd.func116.trans (congrArg some (by kernel_rfl))
  f338 := Tryd.func117.trans (congrArg some (by kernel_rfl))
  t0 := Tryd.underlying0
  a0 := Tryd.isAgg0
  z0 := Tryd.sizeOf0
  v0 := Tryd.zeroValue0
  t2 := Tryd.underlying2
  a2 := Tryd.isAgg2
  z2 := Tryd.sizeOf2
  v2 := Tryd.zeroValue2
  t3 := Tryd.underlying3
  a3 := Tryd.isAgg3
  z3 := Tryd.sizeOf3
  v3 := Tryd.zeroValue3
  t4 := Tryd.underlying4
  a4 := Tryd.isAgg4
  z4 := Tryd.sizeOf4
  v4 := Tryd.zeroValue4
  t5 := Tryd.underlying5
  a5 := Tryd.isAgg5
  z5 := Tryd.sizeOf5
  v5 := Tryd.zeroValue5
  t9 := Tryd.underlying9
  a9 := Tryd.isAgg9
  z9 := Tryd.sizeOf9
  v9 := Tryd.zeroValue9
  t20 := Tryd.underlying20
  a20 := Tryd.isAgg20
  z20 := Tryd.sizeOf20
  v20 := Tryd.zeroValue20
  t37 := Tryd.underlying43
  a37 := Tryd.isAgg43
  z37 := Tryd.sizeOf43
  v37 := Tryd.zeroValue43
  t46 := Tryd.underlying110
  a46 := Tryd.isAgg110
  z46 := Tryd.sizeOf110
  v46 := Tryd.zeroValue110
  t51 := Tryd.underlying126
  a51 := Tryd.isAgg126
  z51 := Tryd.sizeOf126
  v51 := Tryd.zeroValue126
  t53 := Tryd.underlying119
  a53 := Tryd.isAgg119
  z53 := Tryd.sizeOf119
  v53 := Tryd.zeroValue119
  t171 := Tryd.underlying118
  a171 := Tryd.isAgg118
  z171 := Tryd.sizeOf118
  v171 := Tryd.zeroValue118
  t173 := Tryd.underlying122
  a173 := Tryd.isAgg122
  z173 := Tryd.sizeOf122
  v173 := Tryd.zeroValue122
  t212 := Tryd.underlying146
  a212 := Tryd.isAgg146
  z212 := Tryd.sizeOf146
  v212 := Tryd.zeroValue146
  t213 := Tryd.underlying147
  a213 := Tryd.isAgg147
  z213 := Tryd.sizeOf147
  t232 := Tryd.underlying172
  a232 := Tryd.isAgg172
  z232 := Tryd.sizeOf172
  v232 := Tryd.zeroValue172
  t233 := Tryd.underlying125
  a233 := Tryd.isAgg125
  z233 := Tryd.sizeOf125
  v233 := Tryd.zeroValue125
  g17 := by kernel_rfl
  g18 := by kernel_rfl
  g19 := by kernel_rfl
  i0 := by kernel_rfl
  i2 := by kernel_rfl
  i3 := by kernel_rfl
  i4 := by kernel_rfl
  i5 := by kernel_rfl
  i9 := by kernel_rfl
  i20 := by kernel_rfl
  i37 := by kernel_rfl
  i46 := by kernel_rfl
  i51 := by kernel_rfl
  i53 := by kernel_rfl
  i171 := by kernel_rfl
  i173 := by kernel_rfl
  i212 := by kernel_rfl
  i232 := by kernel_rfl
  i233 := by kernel_rfl
  m17 := by kernel_rfl
  m18 := by kernel_rfl
  m19 := by kernel_rfl }
open Go.RowKit Go.Sort Go.Lib in
/-- internal/strconv.FormatInt: "FormatInt returns the string representation of i in the given base": AT BASE 10: i's decimal numeral, for every int64. The world behind the call: the world before it, new blocks behind the heap, draws. (LAID: no walk: one application.) -/
theorem Tryd.internal_strconv_FormatInt_10 (n : Int) (h0 : -9223372036854775808 ≤ n) (h1 : n ≤ 9223372036854775807) (w : World) (htab : Lib.TabIs Tryd.prog w "internal/strconv.uint64pow10" .u64 Lib.pow10Tab) :
    Calls Tryd.prog 77 #[.int .i64 n, .int .i64 10] w fun e w' => e = .returned (.string ⟨(Lib.itoa n).toArray⟩) ∧ ∃ k os, w' = grow (w.drewN k) os := Any.internal_strconv_FormatInt_10 Tryd.laysM246 n h0 h1 w htab
def Tryd.lays246_ren : Go.Shelf.Ren := ⟨fun | 246 => 77 | 283 => 91 | 284 => 92 | 285 => 93 | 286 => 94 | 129 => 107 | 317 => 106 | 318 => 108 | 319 => 109 | 320 => 110 | 337 => 116 | 338 => 117 | n => n, fun | 2 => 2 | 3 => 3 | 9 => 9 | 4 => 4 | 171 => 118 | 0 => 0 | 53 => 119 | 37 => 43 | 5 => 5 | 173 => 122 | 212 => 146 | 51 => 126 | 20 => 20 | 213 => 147 | 46 => 110 | 232 => 172 | 233 => 125 | n => n, fun | 17 => 6 | 18 => 10 | 19 => 11 | n => n⟩
theorem Tryd.lays246 : Go.Proofs.Lays.n246 Tryd.prog Tryd.lays246_ren := {
  mixed := by kernel_rfl
  f129 := Tryd.func107.trans (congrArg some (by kernel_rfl))
  f246 := Tryd.func77.trans (congrArg some (by kernel_rfl))
  f283 := Tryd.func91.trans (congrArg some (by kernel_rfl))
  f284 := Tryd.func92.trans (congrArg some (by kernel_rfl))
  f285 := Tryd.func93.trans (congrArg some (by kernel_rfl))
  f286 := Tryd.func94.trans (congrArg some (by kernel_rfl))
  f317 := Tryd.func106.trans (congrArg some (by kernel_rfl))
  f318 := Tryd.func108.trans (congrArg some (by kernel_rfl))
  f319 := Tryd.func109.trans (congrArg some (by kernel_rfl))
  f320 := Tryd.func110.trans (congrArg some (by kernel_rfl))
  f337 := Tryd.func116.trans (congrArg some (by kernel_rfl))
  f338 := Tryd.func117.trans (congrArg some (by kernel_rfl))
  t0 := Tryd.underlying0
  a0 := Tryd.isAgg0
  z0 := Tryd.sizeOf0
  v0 := Tryd.zeroValue0
  t2 := Tryd.underlying2
  a2 := Tryd.isAgg2
  z2 := Tryd.sizeOf2
  v2 := Tryd.zeroValue2
  t3 := Tryd.underlying3
  a3 := Tryd.isAgg3
  z3 := Tryd.sizeOf3
  v3 := Tryd.zeroValue3
  t4 := Tryd.underlying4
  a4 := Tryd.isAgg4
  z4 := Tryd.sizeOf4
  v4 := Tryd.zeroValue4
  t5 := Tryd.underlying5
  a5 := Tryd.isAgg5
  z5 := Tryd.sizeOf5
  v5 := Tryd.zeroValue5
  t9 := Tryd.underlying9
  a9 := Tryd.isAgg9
  z9 := Tryd.sizeOf9
  v9 := Tryd.zeroValue9
  t20 := Tryd.underlying20
  a20 := Tryd.isAgg20
  z20 := Tryd.sizeOf20
  v20 := Tryd.zeroValue20
  t37 := Tryd.underlying43
  a37 := Tryd.isAgg43
  z37 := Tryd.sizeOf43
  v37 := Tryd.zeroValue43
  t46 := Tryd.underlying110
  a46 := Tryd.isAgg110
  z46 := Tryd.sizeOf110
  v46 := Tryd.zeroValue110
  t51 := Tryd.underlying126
  a51 := Tryd.isAgg126
  z51 := Tryd.sizeOf126
  v51 := Tryd.zeroValue126
  t53 := Tryd.underlying119
  a53 := Tryd.isAgg119
  z53 := Tryd.sizeOf119
  v53 := Tryd.zeroValue119
  t171 := Tryd.underlying118
  a171 := Tryd.isAgg118
  z171 := Tryd.sizeOf118
  v171 := Tryd.zeroValue118
  t173 := Tryd.underlying122
  a173 := Tryd.isAgg122
  z173 := Tryd.sizeOf122
  v173 := Tryd.zeroValue122
  t212 := Tryd.underlying146
  a212 := Tryd.isAgg146
  z212 := Tryd.sizeOf146
  v212 := Tryd.zeroValue146
  t213 := Tryd.underlying147
  a213 := Tryd.isAgg147
  z213 := Tryd.sizeOf147
  t232 := Tryd.underlying172
  a232 := Tryd.isAgg172
  z232 := Tryd.sizeOf172
  v232 := Tryd.zeroValue172
  t233 := Tryd.underlying125
  a233 := Tryd.isAgg125
  z233 := Tryd.sizeOf125
  v233 := Tryd.zeroValue125
  g17 := by kernel_rfl
  g18 := by kernel_rfl
  g19 := by kernel_rfl }
open Go.RowKit Go.Sort Go.Lib in
/-- THE ROAD WITHOUT THE TABLE: 0 <= i < 100: two constants are read, nothing is laid: no premise on the world, and the world is as it was. (LAID: no walk: one application.) -/
theorem Tryd.internal_strconv_FormatInt_10_small (i : Nat) (hi : i < 100) (w : World) :
    Calls Tryd.prog 77 #[.int .i64 i, .int .i64 10] w fun e w' => e = .returned (.string ⟨(Lib.decDigits i).toArray⟩) ∧ w' = w := Any.internal_strconv_FormatInt_10_small Tryd.lays246 i hi w
def Tryd.laysM243_ren : Go.Shelf.Ren := ⟨fun | 243 => 61 | 246 => 77 | 283 => 91 | 284 => 92 | 285 => 93 | 286 => 94 | 129 => 107 | 317 => 106 | 318 => 108 | 319 => 109 | 320 => 110 | 337 => 116 | 338 => 117 | n => n, fun | 3 => 3 | 9 => 9 | 2 => 2 | 4 => 4 | 171 => 118 | 0 => 0 | 53 => 119 | 37 => 43 | 5 => 5 | 173 => 122 | 212 => 146 | 51 => 126 | 20 => 20 | 213 => 147 | 46 => 110 | 232 => 172 | 233 => 125 | n => n, fun | 17 => 6 | 18 => 10 | 19 => 11 | n => n⟩
theorem Tryd.laysM243 : Go.Proofs.LaysM.n243 Tryd.prog Tryd.laysM243_ren := {
  mixed := by kernel_rfl
  f129 := Tryd.func107.trans (congrArg some (by kernel_rfl))
  f243 := Tryd.func61.trans (congrArg some (by kernel_rfl))
  f246 := Tryd.func77.trans (congrArg some (by kernel_rfl))
  f283 := Tryd.func91.trans (congrArg some (by kernel_rfl))
  f284 := Tryd.func92.trans (congrArg some (by kernel_rfl))
  f285 := Tryd.func93.trans (congrArg some (by kernel_rfl))
  f286 := Tryd.func94.trans (congrArg some (by kernel_rfl))
  f317 := Tryd.func106.trans (congrArg some (by kernel_rfl))
  f318 := Tryd.func108.trans (congrArg some (by kernel_rfl))
  f319 := Tryd.func109.trans (congrArg some (by kernel_rfl))
  f320 := Tryd.func110.trans (congrArg some (by kernel_rfl))
  f337 := Tryd.func116.trans (congrArg some (by kernel_rfl))
  f338 := Tryd.func117.trans (congrArg some (by kernel_rfl))
  t0 := Tryd.underlying0
  a0 := Tryd.isAgg0
  z0 := Tryd.sizeOf0
  v0 := Tryd.zeroValue0
  t2 := Tryd.underlying2
  a2 := Tryd.isAgg2
  z2 := Tryd.sizeOf2
  v2 := Tryd.zeroValue2
  t3 := Tryd.underlying3
  a3 := Tryd.isAgg3
  z3 := Tryd.sizeOf3
  v3 := Tryd.zeroValue3
  t4 := Tryd.underlying4
  a4 := Tryd.isAgg4
  z4 := Tryd.sizeOf4
  v4 := Tryd.zeroValue4
  t5 := Tryd.underlying5
  a5 := Tryd.isAgg5
  z5 := Tryd.sizeOf5
  v5 := Tryd.zeroValue5
  t9 := Tryd.underlying9
  a9 := Tryd.isAgg9
  z9 := Tryd.sizeOf9
  v9 := Tryd.zeroValue9
  t20 := Tryd.underlying20
  a20 := Tryd.isAgg20
  z20 := Tryd.sizeOf20
  v20 := Tryd.zeroValue20
  t37 := Tryd.underlying43
  a37 := Tryd.isAgg43
  z37 := Tryd.sizeOf43
  v37 := Tryd.zeroValue43
  t46 := Tryd.underlying110
  a46 := Tryd.isAgg110
  z46 := Tryd.sizeOf110
  v46 := Tryd.zeroValue110
  t51 := Tryd.underlying126
  a51 := Tryd.isAgg126
  z51 := Tryd.sizeOf126
  v51 := Tryd.zeroValue126
  t53 := Tryd.underlying119
  a53 := Tryd.isAgg119
  z53 := Tryd.sizeOf119
  v53 := Tryd.zeroValue119
  t171 := Tryd.underlying118
  a171 := Tryd.isAgg118
  z171 := Tryd.sizeOf118
  v171 := Tryd.zeroValue118
  t173 := Tryd.underlying122
  a173 := Tryd.isAgg122
  z173 := Tryd.sizeOf122
  v173 := Tryd.zeroValue122
  t212 := Tryd.underlying146
  a212 := Tryd.isAgg146
  z212 := Tryd.sizeOf146
  v212 := Tryd.zeroValue146
  t213 := Tryd.underlying147
  a213 := Tryd.isAgg147
  z213 := Tryd.sizeOf147
  t232 := Tryd.underlying172
  a232 := Tryd.isAgg172
  z232 := Tryd.sizeOf172
  v232 := Tryd.zeroValue172
  t233 := Tryd.underlying125
  a233 := Tryd.isAgg125
  z233 := Tryd.sizeOf125
  v233 := Tryd.zeroValue125
  g17 := by kernel_rfl
  g18 := by kernel_rfl
  g19 := by kernel_rfl
  i0 := by kernel_rfl
  i2 := by kernel_rfl
  i3 := by kernel_rfl
  i4 := by kernel_rfl
  i5 := by kernel_rfl
  i9 := by kernel_rfl
  i20 := by kernel_rfl
  i37 := by kernel_rfl
  i46 := by kernel_rfl
  i51 := by kernel_rfl
  i53 := by kernel_rfl
  i171 := by kernel_rfl
  i173 := by kernel_rfl
  i212 := by kernel_rfl
  i232 := by kernel_rfl
  i233 := by kernel_rfl
  m17 := by kernel_rfl
  m18 := by kernel_rfl
  m19 := by kernel_rfl }
open Go.RowKit Go.Sort Go.Lib in
/-- internal/strconv.Itoa: "Itoa is equivalent to FormatInt(int64(i), 10).": i's decimal numeral, for every int. (LAID: no walk: one application.) -/
theorem Tryd.internal_strconv_Itoa (n : Int) (h0 : -9223372036854775808 ≤ n) (h1 : n ≤ 9223372036854775807) (w : World) (htab : Lib.TabIs Tryd.prog w "internal/strconv.uint64pow10" .u64 Lib.pow10Tab) :
    Calls Tryd.prog 61 #[.int .i64 n] w fun e w' => e = .returned (.string ⟨(Lib.itoa n).toArray⟩) ∧ ∃ k os, w' = grow (w.drewN k) os := Any.internal_strconv_Itoa Tryd.laysM243 n h0 h1 w htab
def Tryd.lays243_ren : Go.Shelf.Ren := ⟨fun | 243 => 61 | 246 => 77 | 283 => 91 | 284 => 92 | 285 => 93 | 286 => 94 | 129 => 107 | 317 => 106 | 318 => 108 | 319 => 109 | 320 => 110 | 337 => 116 | 338 => 117 | n => n, fun | 3 => 3 | 9 => 9 | 2 => 2 | 4 => 4 | 171 => 118 | 0 => 0 | 53 => 119 | 37 => 43 | 5 => 5 | 173 => 122 | 212 => 146 | 51 => 126 | 20 => 20 | 213 => 147 | 46 => 110 | 232 => 172 | 233 => 125 | n => n, fun | 17 => 6 | 18 => 10 | 19 => 11 | n => n⟩
theorem Tryd.lays243 : Go.Proofs.Lays.n243 Tryd.prog Tryd.lays243_ren := {
  mixed := by kernel_rfl
  f129 := Tryd.func107.trans (congrArg some (by kernel_rfl))
  f243 := Tryd.func61.trans (congrArg some (by kernel_rfl))
  f246 := Tryd.func77.trans (congrArg some (by kernel_rfl))
  f283 := Tryd.func91.trans (congrArg some (by kernel_rfl))
  f284 := Tryd.func92.trans (congrArg some (by kernel_rfl))
  f285 := Tryd.func93.trans (congrArg some (by kernel_rfl))
  f286 := Tryd.func94.trans (congrArg some (by kernel_rfl))
  f317 := Tryd.func106.trans (congrArg some (by kernel_rfl))
  f318 := Tryd.func108.trans (congrArg some (by kernel_rfl))
  f319 := Tryd.func109.trans (congrArg some (by kernel_rfl))
  f320 := Tryd.func110.trans (congrArg some (by kernel_rfl))
  f337 := Tryd.func116.trans (congrArg some (by kernel_rfl))
  f338 := Tryd.func117.trans (congrArg some (by kernel_rfl))
  t0 := Tryd.underlying0
  a0 := Tryd.isAgg0
  z0 := Tryd.sizeOf0
  v0 := Tryd.zeroValue0
  t2 := Tryd.underlying2
  a2 := Tryd.isAgg2
  z2 := Tryd.sizeOf2
  v2 := Tryd.zeroValue2
  t3 := Tryd.underlying3
  a3 := Tryd.isAgg3
  z3 := Tryd.sizeOf3
  v3 := Tryd.zeroValue3
  t4 := Tryd.underlying4
  a4 := Tryd.isAgg4
  z4 := Tryd.sizeOf4
  v4 := Tryd.zeroValue4
  t5 := Tryd.underlying5
  a5 := Tryd.isAgg5
  z5 := Tryd.sizeOf5
  v5 := Tryd.zeroValue5
  t9 := Tryd.underlying9
  a9 := Tryd.isAgg9
  z9 := Tryd.sizeOf9
  v9 := Tryd.zeroValue9
  t20 := Tryd.underlying20
  a20 := Tryd.isAgg20
  z20 := Tryd.sizeOf20
  v20 := Tryd.zeroValue20
  t37 := Tryd.underlying43
  a37 := Tryd.isAgg43
  z37 := Tryd.sizeOf43
  v37 := Tryd.zeroValue43
  t46 := Tryd.underlying110
  a46 := Tryd.isAgg110
  z46 := Tryd.sizeOf110
  v46 := Tryd.zeroValue110
  t51 := Tryd.underlying126
  a51 := Tryd.isAgg126
  z51 := Tryd.sizeOf126
  v51 := Tryd.zeroValue126
  t53 := Tryd.underlying119
  a53 := Tryd.isAgg119
  z53 := Tryd.sizeOf119
  v53 := Tryd.zeroValue119
  t171 := Tryd.underlying118
  a171 := Tryd.isAgg118
  z171 := Tryd.sizeOf118
  v171 := Tryd.zeroValue118
  t173 := Tryd.underlying122
  a173 := Tryd.isAgg122
  z173 := Tryd.sizeOf122
  v173 := Tryd.zeroValue122
  t212 := Tryd.underlying146
  a212 := Tryd.isAgg146
  z212 := Tryd.sizeOf146
  v212 := Tryd.zeroValue146
  t213 := Tryd.underlying147
  a213 := Tryd.isAgg147
  z213 := Tryd.sizeOf147
  t232 := Tryd.underlying172
  a232 := Tryd.isAgg172
  z232 := Tryd.sizeOf172
  v232 := Tryd.zeroValue172
  t233 := Tryd.underlying125
  a233 := Tryd.isAgg125
  z233 := Tryd.sizeOf125
  v233 := Tryd.zeroValue125
  g17 := by kernel_rfl
  g18 := by kernel_rfl
  g19 := by kernel_rfl }
open Go.RowKit Go.Sort Go.Lib in
/-- THE ROAD WITHOUT THE TABLE: 0 <= i < 100. (LAID: no walk: one application.) -/
theorem Tryd.internal_strconv_Itoa_small (i : Nat) (hi : i < 100) (w : World) :
    Calls Tryd.prog 61 #[.int .i64 i] w fun e w' => e = .returned (.string ⟨(Lib.decDigits i).toArray⟩) ∧ w' = w := Any.internal_strconv_Itoa_small Tryd.lays243 i hi w
def Tryd.laysM171_ren : Go.Shelf.Ren := ⟨fun | 171 => 49 | 243 => 61 | 246 => 77 | 283 => 91 | 284 => 92 | 285 => 93 | 286 => 94 | 129 => 107 | 317 => 106 | 318 => 108 | 319 => 109 | 320 => 110 | 337 => 116 | 338 => 117 | n => n, fun | 3 => 3 | 9 => 9 | 2 => 2 | 4 => 4 | 171 => 118 | 0 => 0 | 53 => 119 | 37 => 43 | 5 => 5 | 173 => 122 | 212 => 146 | 51 => 126 | 20 => 20 | 213 => 147 | 46 => 110 | 232 => 172 | 233 => 125 | n => n, fun | 17 => 6 | 18 => 10 | 19 => 11 | n => n⟩
theorem Tryd.laysM171 : Go.Proofs.LaysM.n171 Tryd.prog Tryd.laysM171_ren := {
  mixed := by kernel_rfl
  f129 := Tryd.func107.trans (congrArg some (by kernel_rfl))
  f171 := Tryd.func49.trans (congrArg some (by kernel_rfl))
  f243 := Tryd.func61.trans (congrArg some (by kernel_rfl))
  f246 := Tryd.func77.trans (congrArg some (by kernel_rfl))
  f283 := Tryd.func91.trans (congrArg some (by kernel_rfl))
  f284 := Tryd.func92.trans (congrArg some (by kernel_rfl))
  f285 := Tryd.func93.trans (congrArg some (by kernel_rfl))
  f286 := Tryd.func94.trans (congrArg some (by kernel_rfl))
  f317 := Tryd.func106.trans (congrArg some (by kernel_rfl))
  f318 := Tryd.func108.trans (congrArg some (by kernel_rfl))
  f319 := Tryd.func109.trans (congrArg some (by kernel_rfl))
  f320 := Tryd.func110.trans (congrArg some (by kernel_rfl))
  f337 := Tryd.func116.trans (congrArg some (by kernel_rfl))
  f338 := Tryd.func117.trans (congrArg some (by kernel_rfl))
  t0 := Tryd.underlying0
  a0 := Tryd.isAgg0
  z0 := Tryd.sizeOf0
  v0 := Tryd.zeroValue0
  t2 := Tryd.underlying2
  a2 := Tryd.isAgg2
  z2 := Tryd.sizeOf2
  v2 := Tryd.zeroValue2
  t3 := Tryd.underlying3
  a3 := Tryd.isAgg3
  z3 := Tryd.sizeOf3
  v3 := Tryd.zeroValue3
  t4 := Tryd.underlying4
  a4 := Tryd.isAgg4
  z4 := Tryd.sizeOf4
  v4 := Tryd.zeroValue4
  t5 := Tryd.underlying5
  a5 := Tryd.isAgg5
  z5 := Tryd.sizeOf5
  v5 := Tryd.zeroValue5
  t9 := Tryd.underlying9
  a9 := Tryd.isAgg9
  z9 := Tryd.sizeOf9
  v9 := Tryd.zeroValue9
  t20 := Tryd.underlying20
  a20 := Tryd.isAgg20
  z20 := Tryd.sizeOf20
  v20 := Tryd.zeroValue20
  t37 := Tryd.underlying43
  a37 := Tryd.isAgg43
  z37 := Tryd.sizeOf43
  v37 := Tryd.zeroValue43
  t46 := Tryd.underlying110
  a46 := Tryd.isAgg110
  z46 := Tryd.sizeOf110
  v46 := Tryd.zeroValue110
  t51 := Tryd.underlying126
  a51 := Tryd.isAgg126
  z51 := Tryd.sizeOf126
  v51 := Tryd.zeroValue126
  t53 := Tryd.underlying119
  a53 := Tryd.isAgg119
  z53 := Tryd.sizeOf119
  v53 := Tryd.zeroValue119
  t171 := Tryd.underlying118
  a171 := Tryd.isAgg118
  z171 := Tryd.sizeOf118
  v171 := Tryd.zeroValue118
  t173 := Tryd.underlying122
  a173 := Tryd.isAgg122
  z173 := Tryd.sizeOf122
  v173 := Tryd.zeroValue122
  t212 := Tryd.underlying146
  a212 := Tryd.isAgg146
  z212 := Tryd.sizeOf146
  v212 := Tryd.zeroValue146
  t213 := Tryd.underlying147
  a213 := Tryd.isAgg147
  z213 := Tryd.sizeOf147
  t232 := Tryd.underlying172
  a232 := Tryd.isAgg172
  z232 := Tryd.sizeOf172
  v232 := Tryd.zeroValue172
  t233 := Tryd.underlying125
  a233 := Tryd.isAgg125
  z233 := Tryd.sizeOf125
  v233 := Tryd.zeroValue125
  g17 := by kernel_rfl
  g18 := by kernel_rfl
  g19 := by kernel_rfl
  i0 := by kernel_rfl
  i2 := by kernel_rfl
  i3 := by kernel_rfl
  i4 := by kernel_rfl
  i5 := by kernel_rfl
  i9 := by kernel_rfl
  i20 := by kernel_rfl
  i37 := by kernel_rfl
  i46 := by kernel_rfl
  i51 := by kernel_rfl
  i53 := by kernel_rfl
  i171 := by kernel_rfl
  i173 := by kernel_rfl
  i212 := by kernel_rfl
  i232 := by kernel_rfl
  i233 := by kernel_rfl
  m17 := by kernel_rfl
  m18 := by kernel_rfl
  m19 := by kernel_rfl }
open Go.RowKit Go.Sort Go.Lib in
/-- strconv.Itoa: "Itoa is equivalent to FormatInt(int64(i), 10).": i's DECIMAL NUMERAL ('Lib.itoa': a '-' where i is negative, then the digits), FOR EVERY int. The world behind the call: the world before it, new blocks behind the heap (the library's 'var a [24]byte'), draws. (LAID: no walk: one application.) -/
theorem Tryd.strconv_Itoa (n : Int) (h0 : -9223372036854775808 ≤ n) (h1 : n ≤ 9223372036854775807) (w : World) (htab : Lib.TabIs Tryd.prog w "internal/strconv.uint64pow10" .u64 Lib.pow10Tab) :
    Calls Tryd.prog 49 #[.int .i64 n] w fun e w' => e = .returned (.string ⟨(Lib.itoa n).toArray⟩) ∧ ∃ k os, w' = grow (w.drewN k) os := Any.strconv_Itoa Tryd.laysM171 n h0 h1 w htab
def Tryd.lays171_ren : Go.Shelf.Ren := ⟨fun | 171 => 49 | 243 => 61 | 246 => 77 | 283 => 91 | 284 => 92 | 285 => 93 | 286 => 94 | 129 => 107 | 317 => 106 | 318 => 108 | 319 => 109 | 320 => 110 | 337 => 116 | 338 => 117 | n => n, fun | 3 => 3 | 9 => 9 | 2 => 2 | 4 => 4 | 171 => 118 | 0 => 0 | 53 => 119 | 37 => 43 | 5 => 5 | 173 => 122 | 212 => 146 | 51 => 126 | 20 => 20 | 213 => 147 | 46 => 110 | 232 => 172 | 233 => 125 | n => n, fun | 17 => 6 | 18 => 10 | 19 => 11 | n => n⟩
theorem Tryd.lays171 : Go.Proofs.Lays.n171 Tryd.prog Tryd.lays171_ren := {
  mixed := by kernel_rfl
  f129 := Tryd.func107.trans (congrArg some (by kernel_rfl))
  f171 := Tryd.func49.trans (congrArg some (by kernel_rfl))
  f243 := Tryd.func61.trans (congrArg some (by kernel_rfl))
  f246 := Tryd.func77.trans (congrArg some (by kernel_rfl))
  f283 := Tryd.func91.trans (congrArg some (by kernel_rfl))
  f284 := Tryd.func92.trans (congrArg some (by kernel_rfl))
  f285 := Tryd.func93.trans (congrArg some (by kernel_rfl))
  f286 := Tryd.func94.trans (congrArg some (by kernel_rfl))
  f317 := Tryd.func106.trans (congrArg some (by kernel_rfl))
  f318 := Tryd.func108.trans (congrArg some (by kernel_rfl))
  f319 := Tryd.func109.trans (congrArg some (by kernel_rfl))
  f320 := Tryd.func110.trans (congrArg some (by kernel_rfl))
  f337 := Tryd.func116.trans (congrArg some (by kernel_rfl))
  f338 := Tryd.func117.trans (congrArg some (by kernel_rfl))
  t0 := Tryd.underlying0
  a0 := Tryd.isAgg0
  z0 := Tryd.sizeOf0
  v0 := Tryd.zeroValue0
  t2 := Tryd.underlying2
  a2 := Tryd.isAgg2
  z2 := Tryd.sizeOf2
  v2 := Tryd.zeroValue2
  t3 := Tryd.underlying3
  a3 := Tryd.isAgg3
  z3 := Tryd.sizeOf3
  v3 := Tryd.zeroValue3
  t4 := Tryd.underlying4
  a4 := Tryd.isAgg4
  z4 := Tryd.sizeOf4
  v4 := Tryd.zeroValue4
  t5 := Tryd.underlying5
  a5 := Tryd.isAgg5
  z5 := Tryd.sizeOf5
  v5 := Tryd.zeroValue5
  t9 := Tryd.underlying9
  a9 := Tryd.isAgg9
  z9 := Tryd.sizeOf9
  v9 := Tryd.zeroValue9
  t20 := Tryd.underlying20
  a20 := Tryd.isAgg20
  z20 := Tryd.sizeOf20
  v20 := Tryd.zeroValue20
  t37 := Tryd.underlying43
  a37 := Tryd.isAgg43
  z37 := Tryd.sizeOf43
  v37 := Tryd.zeroValue43
  t46 := Tryd.underlying110
  a46 := Tryd.isAgg110
  z46 := Tryd.sizeOf110
  v46 := Tryd.zeroValue110
  t51 := Tryd.underlying126
  a51 := Tryd.isAgg126
  z51 := Tryd.sizeOf126
  v51 := Tryd.zeroValue126
  t53 := Tryd.underlying119
  a53 := Tryd.isAgg119
  z53 := Tryd.sizeOf119
  v53 := Tryd.zeroValue119
  t171 := Tryd.underlying118
  a171 := Tryd.isAgg118
  z171 := Tryd.sizeOf118
  v171 := Tryd.zeroValue118
  t173 := Tryd.underlying122
  a173 := Tryd.isAgg122
  z173 := Tryd.sizeOf122
  v173 := Tryd.zeroValue122
  t212 := Tryd.underlying146
  a212 := Tryd.isAgg146
  z212 := Tryd.sizeOf146
  v212 := Tryd.zeroValue146
  t213 := Tryd.underlying147
  a213 := Tryd.isAgg147
  z213 := Tryd.sizeOf147
  t232 := Tryd.underlying172
  a232 := Tryd.isAgg172
  z232 := Tryd.sizeOf172
  v232 := Tryd.zeroValue172
  t233 := Tryd.underlying125
  a233 := Tryd.isAgg125
  z233 := Tryd.sizeOf125
  v233 := Tryd.zeroValue125
  g17 := by kernel_rfl
  g18 := by kernel_rfl
  g19 := by kernel_rfl }
open Go.RowKit Go.Sort Go.Lib in
/-- THE ROAD WITHOUT THE TABLE: 0 <= i < 100: NO PREMISE ON THE WORLD, AND THE WORLD IS AS IT WAS: a row that keeps its argument in that range need list no table ('laid = []'). (LAID: no walk: one application.) -/
theorem Tryd.strconv_Itoa_small (i : Nat) (hi : i < 100) (w : World) :
    Calls Tryd.prog 49 #[.int .i64 i] w fun e w' => e = .returned (.string ⟨(Lib.decDigits i).toArray⟩) ∧ w' = w := Any.strconv_Itoa_small Tryd.lays171 i hi w
def Tryd.lays164_ren : Go.Shelf.Ren := ⟨fun | 164 => 69 | 197 => 83 | 239 => 84 | 260 => 99 | 274 => 100 | 275 => 101 | n => n, fun | 9 => 9 | 4 => 4 | 3 => 3 | 5 => 5 | 0 => 0 | 21 => 21 | 105 => 111 | 156 => 130 | 49 => 40 | 157 => 131 | 46 => 110 | 159 => 133 | 162 => 136 | 160 => 134 | 119 => 108 | 139 => 163 | 138 => 162 | 208 => 167 | 51 => 126 | 206 => 165 | n => n, fun | 11 => 3 | 12 => 4 | 13 => 5 | 3 => 8 | 4 => 9 | n => n⟩
theorem Tryd.lays164 : Go.Proofs.Lays.n164 Tryd.prog Tryd.lays164_ren := {
  mixed := by kernel_rfl
  f164 := Tryd.func69.trans (congrArg some (by kernel_rfl))
  f197 := Tryd.func83.trans (congrArg some (by kernel_rfl))
  f239 := Tryd.func84.trans (congrArg some (by kernel_rfl))
  f260 := Tryd.func99.trans (congrArg some (by kernel_rfl))
  f274 := Tryd.func100.trans (congrArg some (by kernel_rfl))
  f275 := Tryd.func101.trans (congrArg some (by kernel_rfl))
  t0 := Tryd.underlying0
  a0 := Tryd.isAgg0
  z0 := Tryd.sizeOf0
  v0 := Tryd.zeroValue0
  t3 := Tryd.underlying3
  a3 := Tryd.isAgg3
  z3 := Tryd.sizeOf3
  v3 := Tryd.zeroValue3
  t4 := Tryd.underlying4
  a4 := Tryd.isAgg4
  z4 := Tryd.sizeOf4
  v4 := Tryd.zeroValue4
  t5 := Tryd.underlying5
  a5 := Tryd.isAgg5
  z5 := Tryd.sizeOf5
  v5 := Tryd.zeroValue5
  t9 := Tryd.underlying9
  a9 := Tryd.isAgg9
  z9 := Tryd.sizeOf9
  v9 := Tryd.zeroValue9
  t21 := Tryd.underlying21
  a21 := Tryd.isAgg21
  z21 := Tryd.sizeOf21
  v21 := Tryd.zeroValue21
  t46 := Tryd.underlying110
  a46 := Tryd.isAgg110
  z46 := Tryd.sizeOf110
  v46 := Tryd.zeroValue110
  t49 := Tryd.underlying40
  a49 := Tryd.isAgg40
  z49 := Tryd.sizeOf40
  v49 := Tryd.zeroValue40
  t51 := Tryd.underlying126
  a51 := Tryd.isAgg126
  z51 := Tryd.sizeOf126
  v51 := Tryd.zeroValue126
  t105 := Tryd.underlying111
  a105 := Tryd.isAgg111
  z105 := Tryd.sizeOf111
  v105 := Tryd.zeroValue111
  t119 := Tryd.underlying108
  a119 := Tryd.isAgg108
  z119 := Tryd.sizeOf108
  t138 := Tryd.underlying162
  a138 := Tryd.isAgg162
  z138 := Tryd.sizeOf162
  v138 := Tryd.zeroValue162
  t139 := Tryd.underlying163
  a139 := Tryd.isAgg163
  z139 := Tryd.sizeOf163
  v139 := Tryd.zeroValue163
  t156 := Tryd.underlying130
  a156 := Tryd.isAgg130
  z156 := Tryd.sizeOf130
  t157 := Tryd.underlying131
  a157 := Tryd.isAgg131
  z157 := Tryd.sizeOf131
  v157 := Tryd.zeroValue131
  t159 := Tryd.underlying133
  a159 := Tryd.isAgg133
  z159 := Tryd.sizeOf133
  v159 := Tryd.zeroValue133
  t160 := Tryd.underlying134
  a160 := Tryd.isAgg134
  z160 := Tryd.sizeOf134
  v160 := Tryd.zeroValue134
  t162 := Tryd.underlying136
  a162 := Tryd.isAgg136
  z162 := Tryd.sizeOf136
  v162 := Tryd.zeroValue136
  t206 := Tryd.underlying165
  a206 := Tryd.isAgg165
  z206 := Tryd.sizeOf165
  v206 := Tryd.zeroValue165
  t208 := Tryd.underlying167
  a208 := Tryd.isAgg167
  z208 := Tryd.sizeOf167
  v208 := Tryd.zeroValue167
  g3 := by kernel_rfl
  g4 := by kernel_rfl
  g11 := by kernel_rfl
  g12 := by kernel_rfl
  g13 := by kernel_rfl }
open Go.RowKit Go.Lib in
theorem Tryd.strings_EqualFold (s t : ByteArray) (w : World) (hs : s.size < 4294967281) (has : ∀ (j : Nat) b, s.data.toList[j]? = some b → b.toNat < 128) (hat : ∀ (j : Nat) b, t.data.toList[j]? = some b → b.toNat < 128) :
    Calls Tryd.prog 69 #[.string s, .string t] w fun e w' => e = .returned (.bool (Lib.equalFold s.data.toList t.data.toList)) ∧ w' = w := Any.strings_EqualFold Tryd.lays164 s t w hs has hat
def Tryd.lays199_ren : Go.Shelf.Ren := ⟨fun | 199 => 80 | 261 => 97 | 311 => 112 | 312 => 113 | n => n, fun | 21 => 21 | 4 => 4 | 51 => 126 | 141 => 128 | 0 => 0 | 196 => 154 | 193 => 151 | 3 => 3 | 198 => 156 | 49 => 40 | 194 => 152 | 201 => 159 | 226 => 169 | 46 => 110 | 227 => 170 | n => n, fun | 6 => 2 | n => n⟩
theorem Tryd.lays199 : Go.Proofs.Lays.n199 Tryd.prog Tryd.lays199_ren := {
  mixed := by kernel_rfl
  f199 := Tryd.func80.trans (congrArg some (by kernel_rfl))
  f261 := Tryd.func97.trans (congrArg some (by kernel_rfl))
  f311 := Tryd.func112.trans (congrArg some (by kernel_rfl))
  f312 := Tryd.func113.trans (congrArg some (by kernel_rfl))
  t0 := Tryd.underlying0
  a0 := Tryd.isAgg0
  z0 := Tryd.sizeOf0
  v0 := Tryd.zeroValue0
  t3 := Tryd.underlying3
  a3 := Tryd.isAgg3
  z3 := Tryd.sizeOf3
  v3 := Tryd.zeroValue3
  t4 := Tryd.underlying4
  a4 := Tryd.isAgg4
  z4 := Tryd.sizeOf4
  v4 := Tryd.zeroValue4
  t21 := Tryd.underlying21
  a21 := Tryd.isAgg21
  z21 := Tryd.sizeOf21
  v21 := Tryd.zeroValue21
  t46 := Tryd.underlying110
  a46 := Tryd.isAgg110
  z46 := Tryd.sizeOf110
  v46 := Tryd.zeroValue110
  t49 := Tryd.underlying40
  a49 := Tryd.isAgg40
  z49 := Tryd.sizeOf40
  v49 := Tryd.zeroValue40
  t51 := Tryd.underlying126
  a51 := Tryd.isAgg126
  z51 := Tryd.sizeOf126
  v51 := Tryd.zeroValue126
  t141 := Tryd.underlying128
  a141 := Tryd.isAgg128
  z141 := Tryd.sizeOf128
  v141 := Tryd.zeroValue128
  t193 := Tryd.underlying151
  a193 := Tryd.isAgg151
  z193 := Tryd.sizeOf151
  v193 := Tryd.zeroValue151
  t194 := Tryd.underlying152
  a194 := Tryd.isAgg152
  z194 := Tryd.sizeOf152
  v194 := Tryd.zeroValue152
  t196 := Tryd.underlying154
  a196 := Tryd.isAgg154
  z196 := Tryd.sizeOf154
  v196 := Tryd.zeroValue154
  t198 := Tryd.underlying156
  a198 := Tryd.isAgg156
  z198 := Tryd.sizeOf156
  v198 := Tryd.zeroValue156
  t201 := Tryd.underlying159
  a201 := Tryd.isAgg159
  z201 := Tryd.sizeOf159
  v201 := Tryd.zeroValue159
  t226 := Tryd.underlying169
  a226 := Tryd.isAgg169
  z226 := Tryd.sizeOf169
  v226 := Tryd.zeroValue169
  t227 := Tryd.underlying170
  a227 := Tryd.isAgg170
  z227 := Tryd.sizeOf170
  v227 := Tryd.zeroValue170
  g6 := by kernel_rfl }
open Go.RowKit Go.Lib in
theorem Tryd.unicode_IsSpace (r : Int) (w : World) (h0 : 0 ≤ r) (h : r ≤ 255) :
    Calls Tryd.prog 80 #[.int .i32 r] w fun e w' => e = .returned (.bool (Lib.isSpaceL r)) ∧ w' = w := Any.unicode_IsSpace Tryd.lays199 r w h0 h
def Tryd.lays203_ren : Go.Shelf.Ren := ⟨fun | 203 => 75 | 262 => 90 | 313 => 105 | 274 => 100 | 275 => 101 | n => n, fun | 21 => 21 | 4 => 4 | 3 => 3 | 162 => 136 | 203 => 142 | 160 => 134 | 46 => 110 | 0 => 0 | 208 => 167 | 51 => 126 | 206 => 165 | n => n, fun | 13 => 5 | n => n⟩
theorem Tryd.lays203 : Go.Proofs.Lays.n203 Tryd.prog Tryd.lays203_ren := {
  mixed := by kernel_rfl
  f203 := Tryd.func75.trans (congrArg some (by kernel_rfl))
  f262 := Tryd.func90.trans (congrArg some (by kernel_rfl))
  f274 := Tryd.func100.trans (congrArg some (by kernel_rfl))
  f275 := Tryd.func101.trans (congrArg some (by kernel_rfl))
  f313 := Tryd.func105.trans (congrArg some (by kernel_rfl))
  t0 := Tryd.underlying0
  a0 := Tryd.isAgg0
  z0 := Tryd.sizeOf0
  v0 := Tryd.zeroValue0
  t3 := Tryd.underlying3
  a3 := Tryd.isAgg3
  z3 := Tryd.sizeOf3
  v3 := Tryd.zeroValue3
  t4 := Tryd.underlying4
  a4 := Tryd.isAgg4
  z4 := Tryd.sizeOf4
  v4 := Tryd.zeroValue4
  t21 := Tryd.underlying21
  a21 := Tryd.isAgg21
  z21 := Tryd.sizeOf21
  v21 := Tryd.zeroValue21
  t46 := Tryd.underlying110
  a46 := Tryd.isAgg110
  z46 := Tryd.sizeOf110
  v46 := Tryd.zeroValue110
  t51 := Tryd.underlying126
  a51 := Tryd.isAgg126
  z51 := Tryd.sizeOf126
  v51 := Tryd.zeroValue126
  t160 := Tryd.underlying134
  a160 := Tryd.isAgg134
  z160 := Tryd.sizeOf134
  v160 := Tryd.zeroValue134
  t162 := Tryd.underlying136
  a162 := Tryd.isAgg136
  z162 := Tryd.sizeOf136
  v162 := Tryd.zeroValue136
  t203 := Tryd.underlying142
  a203 := Tryd.isAgg142
  z203 := Tryd.sizeOf142
  v203 := Tryd.zeroValue142
  t206 := Tryd.underlying165
  a206 := Tryd.isAgg165
  z206 := Tryd.sizeOf165
  v206 := Tryd.zeroValue165
  t208 := Tryd.underlying167
  a208 := Tryd.isAgg167
  z208 := Tryd.sizeOf167
  v208 := Tryd.zeroValue167
  g13 := by kernel_rfl }
open Go.RowKit Go.Lib in
theorem Tryd.unicode_ToUpper (r : Int) (w : World) (h : r ≤ 127) :
    Calls Tryd.prog 75 #[.int .i32 r] w fun e w' => e = .returned (.int .i32 (Lib.toUpperR r)) ∧ w' = w := Any.unicode_ToUpper Tryd.lays203 r w h
def Tryd.lays260_ren : Go.Shelf.Ren := ⟨fun | 260 => 99 | n => n, fun | 9 => 9 | 21 => 21 | 3 => 3 | 4 => 4 | 5 => 5 | 119 => 108 | 0 => 0 | 46 => 110 | 139 => 163 | 138 => 162 | n => n, fun | 3 => 8 | 4 => 9 | n => n⟩
theorem Tryd.lays260 : Go.Proofs.Lays.n260 Tryd.prog Tryd.lays260_ren := {
  mixed := by kernel_rfl
  f260 := Tryd.func99.trans (congrArg some (by kernel_rfl))
  t0 := Tryd.underlying0
  a0 := Tryd.isAgg0
  z0 := Tryd.sizeOf0
  v0 := Tryd.zeroValue0
  t3 := Tryd.underlying3
  a3 := Tryd.isAgg3
  z3 := Tryd.sizeOf3
  v3 := Tryd.zeroValue3
  t4 := Tryd.underlying4
  a4 := Tryd.isAgg4
  z4 := Tryd.sizeOf4
  v4 := Tryd.zeroValue4
  t5 := Tryd.underlying5
  a5 := Tryd.isAgg5
  z5 := Tryd.sizeOf5
  v5 := Tryd.zeroValue5
  t9 := Tryd.underlying9
  a9 := Tryd.isAgg9
  z9 := Tryd.sizeOf9
  v9 := Tryd.zeroValue9
  t21 := Tryd.underlying21
  a21 := Tryd.isAgg21
  z21 := Tryd.sizeOf21
  v21 := Tryd.zeroValue21
  t46 := Tryd.underlying110
  a46 := Tryd.isAgg110
  z46 := Tryd.sizeOf110
  v46 := Tryd.zeroValue110
  t119 := Tryd.underlying108
  a119 := Tryd.isAgg108
  z119 := Tryd.sizeOf108
  t138 := Tryd.underlying162
  a138 := Tryd.isAgg162
  z138 := Tryd.sizeOf162
  v138 := Tryd.zeroValue162
  t139 := Tryd.underlying163
  a139 := Tryd.isAgg163
  z139 := Tryd.sizeOf163
  v139 := Tryd.zeroValue163
  g3 := by kernel_rfl
  g4 := by kernel_rfl }
open Go.RowKit Go.Lib in
theorem Tryd.utf8_decodeRuneInStringSlow (s : ByteArray) (w : World) (hT : Lib.Utf8Tabs 8 9 w) :
    Calls Tryd.prog 99 #[.string s] w fun e w' => e = .returned (.tuple #[.int .i32 (Lib.decodeGo s).1, .int .i64 (Lib.decodeGo s).2]) ∧ Below w.heap.size w w' := Any.utf8_decodeRuneInStringSlow Tryd.lays260 s w hT
def Tryd.lays311_ren : Go.Shelf.Ren := ⟨fun | 311 => 112 | n => n, fun | 193 => 151 | 49 => 40 | 4 => 4 | 3 => 3 | 0 => 0 | 226 => 169 | 198 => 156 | 46 => 110 | n => n, fun | n => n⟩
theorem Tryd.lays311 : Go.Proofs.Lays.n311 Tryd.prog Tryd.lays311_ren := {
  mixed := by kernel_rfl
  f311 := Tryd.func112.trans (congrArg some (by kernel_rfl))
  t0 := Tryd.underlying0
  a0 := Tryd.isAgg0
  z0 := Tryd.sizeOf0
  v0 := Tryd.zeroValue0
  t3 := Tryd.underlying3
  a3 := Tryd.isAgg3
  z3 := Tryd.sizeOf3
  v3 := Tryd.zeroValue3
  t4 := Tryd.underlying4
  a4 := Tryd.isAgg4
  z4 := Tryd.sizeOf4
  v4 := Tryd.zeroValue4
  t46 := Tryd.underlying110
  a46 := Tryd.isAgg110
  z46 := Tryd.sizeOf110
  v46 := Tryd.zeroValue110
  t49 := Tryd.underlying40
  a49 := Tryd.isAgg40
  z49 := Tryd.sizeOf40
  v49 := Tryd.zeroValue40
  t193 := Tryd.underlying151
  a193 := Tryd.isAgg151
  z193 := Tryd.sizeOf151
  v193 := Tryd.zeroValue151
  t198 := Tryd.underlying156
  a198 := Tryd.isAgg156
  z198 := Tryd.sizeOf156
  v198 := Tryd.zeroValue156
  t226 := Tryd.underlying169
  a226 := Tryd.isAgg169
  z226 := Tryd.sizeOf169
  v226 := Tryd.zeroValue169 }
open Go.RowKit Go.Lib in
theorem Tryd.unicode_is16_white (R oR : Nat) (z : Nat) (w : World) (hz : z < 65536) (hz0 : 255 < z) (c6 : w.cell? ⟨R, oR + 6, none⟩ = some (.int .u16 160)) (c7 : w.cell? ⟨R, oR + 7, none⟩ = some (.int .u16 5760)) (c8 : w.cell? ⟨R, oR + 8, none⟩ = some (.int .u16 5600)) (c9 : w.cell? ⟨R, oR + 9, none⟩ = some (.int .u16 8192)) (c10 : w.cell? ⟨R, oR + 10, none⟩ = some (.int .u16 8202)) (c11 : w.cell? ⟨R, oR + 11, none⟩ = some (.int .u16 1)) (c12 : w.cell? ⟨R, oR + 12, none⟩ = some (.int .u16 8232)) (c13 : w.cell? ⟨R, oR + 13, none⟩ = some (.int .u16 8233)) (c14 : w.cell? ⟨R, oR + 14, none⟩ = some (.int .u16 1)) (c15 : w.cell? ⟨R, oR + 15, none⟩ = some (.int .u16 8239)) (c16 : w.cell? ⟨R, oR + 16, none⟩ = some (.int .u16 8287)) (c17 : w.cell? ⟨R, oR + 17, none⟩ = some (.int .u16 48)) (c18 : w.cell? ⟨R, oR + 18, none⟩ = some (.int .u16 12288)) (c19 : w.cell? ⟨R, oR + 19, none⟩ = some (.int .u16 12288)) (c20 : w.cell? ⟨R, oR + 20, none⟩ = some (.int .u16 1)) :
    Calls Tryd.prog 112 #[.slice (some ⟨R, oR + 6, none⟩) 5 5, .int .u16 z] w fun e w' => e = .returned (.bool (Lib.isSpaceR z)) ∧ Below w.heap.size w w' := Any.unicode_is16_white Tryd.lays311 R oR z w hz hz0 c6 c7 c8 c9 c10 c11 c12 c13 c14 c15 c16 c17 c18 c19 c20
def Tryd.lays261_ren : Go.Shelf.Ren := ⟨fun | 261 => 97 | 311 => 112 | 312 => 113 | n => n, fun | 141 => 128 | 21 => 21 | 4 => 4 | 0 => 0 | 196 => 154 | 193 => 151 | 3 => 3 | 51 => 126 | 198 => 156 | 49 => 40 | 194 => 152 | 201 => 159 | 226 => 169 | 46 => 110 | 227 => 170 | n => n, fun | n => n⟩
theorem Tryd.lays261 : Go.Proofs.Lays.n261 Tryd.prog Tryd.lays261_ren := {
  mixed := by kernel_rfl
  f261 := Tryd.func97.trans (congrArg some (by kernel_rfl))
  f311 := Tryd.func112.trans (congrArg some (by kernel_rfl))
  f312 := Tryd.func113.trans (congrArg some (by kernel_rfl))
  t0 := Tryd.underlying0
  a0 := Tryd.isAgg0
  z0 := Tryd.sizeOf0
  v0 := Tryd.zeroValue0
  t3 := Tryd.underlying3
  a3 := Tryd.isAgg3
  z3 := Tryd.sizeOf3
  v3 := Tryd.zeroValue3
  t4 := Tryd.underlying4
  a4 := Tryd.isAgg4
  z4 := Tryd.sizeOf4
  v4 := Tryd.zeroValue4
  t21 := Tryd.underlying21
  a21 := Tryd.isAgg21
  z21 := Tryd.sizeOf21
  v21 := Tryd.zeroValue21
  t46 := Tryd.underlying110
  a46 := Tryd.isAgg110
  z46 := Tryd.sizeOf110
  v46 := Tryd.zeroValue110
  t49 := Tryd.underlying40
  a49 := Tryd.isAgg40
  z49 := Tryd.sizeOf40
  v49 := Tryd.zeroValue40
  t51 := Tryd.underlying126
  a51 := Tryd.isAgg126
  z51 := Tryd.sizeOf126
  v51 := Tryd.zeroValue126
  t141 := Tryd.underlying128
  a141 := Tryd.isAgg128
  z141 := Tryd.sizeOf128
  v141 := Tryd.zeroValue128
  t193 := Tryd.underlying151
  a193 := Tryd.isAgg151
  z193 := Tryd.sizeOf151
  v193 := Tryd.zeroValue151
  t194 := Tryd.underlying152
  a194 := Tryd.isAgg152
  z194 := Tryd.sizeOf152
  v194 := Tryd.zeroValue152
  t196 := Tryd.underlying154
  a196 := Tryd.isAgg154
  z196 := Tryd.sizeOf154
  v196 := Tryd.zeroValue154
  t198 := Tryd.underlying156
  a198 := Tryd.isAgg156
  z198 := Tryd.sizeOf156
  v198 := Tryd.zeroValue156
  t201 := Tryd.underlying159
  a201 := Tryd.isAgg159
  z201 := Tryd.sizeOf159
  v201 := Tryd.zeroValue159
  t226 := Tryd.underlying169
  a226 := Tryd.isAgg169
  z226 := Tryd.sizeOf169
  v226 := Tryd.zeroValue169
  t227 := Tryd.underlying170
  a227 := Tryd.isAgg170
  z227 := Tryd.sizeOf170
  v227 := Tryd.zeroValue170 }
open Go.RowKit Go.Lib in
/-- unicode.isExcludingLatin(White_Space, r), r beyond U+00FF or negative. (LAID: no walk: one application.) -/
theorem Tryd.unicode_isExcludingLatin_white (T oT R oR : Nat) (r : Int) (w : World) (hlo : -2147483648 ≤ r) (hhi : r ≤ 2147483647) (hr : r < 0 ∨ 255 < r) (h2 : w.cell? ⟨T, oT, none⟩ = some (.slice (some ⟨R, oR, none⟩) 7 7)) (h3 : w.cell? ⟨T, oT + 1, none⟩ = some (.slice none 0 0)) (h4 : w.cell? ⟨T, oT + 2, none⟩ = some (.int .i64 2)) (h5 : ∀ i, i < 21 → w.cell? ⟨R, oR + i, none⟩ = some (.int .u16 (whiteT.getD i 0))) :
    Calls Tryd.prog 97 #[.pointer (some ⟨T, oT, none⟩), .int .i32 r] w fun e w' => e = .returned (.bool (Lib.isSpaceZ r)) ∧ Below w.heap.size w w' := Any.unicode_isExcludingLatin_white Tryd.lays261 T oT R oR r w hlo hhi hr h2 h3 h4 h5
open Go.RowKit Go.Lib in
/-- **unicode.IsSpace AT EVERY int32.** (LAID: no walk: one application.) -/
theorem Tryd.unicode_IsSpace_any (r : Int) (w : World) (hlo : -2147483648 ≤ r) (hhi : r ≤ 2147483647) (hW : Lib.WhiteTab 2 w) :
    Calls Tryd.prog 80 #[.int .i32 r] w fun e w' => e = .returned (.bool (Lib.isSpaceZ r)) ∧ Below w.heap.size w w' := Any.unicode_IsSpace_any Tryd.lays199 r w hlo hhi hW
def Tryd.lays274_ren : Go.Shelf.Ren := ⟨fun | 274 => 100 | n => n, fun | 21 => 21 | 162 => 136 | 160 => 134 | 3 => 3 | 4 => 4 | 46 => 110 | 0 => 0 | 208 => 167 | 51 => 126 | 206 => 165 | n => n, fun | n => n⟩
theorem Tryd.lays274 : Go.Proofs.Lays.n274 Tryd.prog Tryd.lays274_ren := {
  mixed := by kernel_rfl
  f274 := Tryd.func100.trans (congrArg some (by kernel_rfl))
  t0 := Tryd.underlying0
  a0 := Tryd.isAgg0
  z0 := Tryd.sizeOf0
  v0 := Tryd.zeroValue0
  t3 := Tryd.underlying3
  a3 := Tryd.isAgg3
  z3 := Tryd.sizeOf3
  v3 := Tryd.zeroValue3
  t4 := Tryd.underlying4
  a4 := Tryd.isAgg4
  z4 := Tryd.sizeOf4
  v4 := Tryd.zeroValue4
  t21 := Tryd.underlying21
  a21 := Tryd.isAgg21
  z21 := Tryd.sizeOf21
  v21 := Tryd.zeroValue21
  t46 := Tryd.underlying110
  a46 := Tryd.isAgg110
  z46 := Tryd.sizeOf110
  v46 := Tryd.zeroValue110
  t51 := Tryd.underlying126
  a51 := Tryd.isAgg126
  z51 := Tryd.sizeOf126
  v51 := Tryd.zeroValue126
  t160 := Tryd.underlying134
  a160 := Tryd.isAgg134
  z160 := Tryd.sizeOf134
  v160 := Tryd.zeroValue134
  t162 := Tryd.underlying136
  a162 := Tryd.isAgg136
  z162 := Tryd.sizeOf136
  v162 := Tryd.zeroValue136
  t208 := Tryd.underlying167
  a208 := Tryd.isAgg167
  z208 := Tryd.sizeOf167
  v208 := Tryd.zeroValue167 }
open Go.RowKit Go.Lib in
theorem Tryd.unicode_lookupCaseRange (T : Array CaseRow) (R oR cap : Nat) (r : Int) (w : World) (hT : CaseTab R oR T w) (hok : CaseOk T) (hn : T.size ≤ 1000000000) :
    Calls Tryd.prog 100 #[.int .i32 r, .slice (some ⟨R, oR, none⟩) T.size cap] w fun e w' =>
      e = .returned (match lookupIdx T r (T.size + 1) 0 T.size with | some i => .pointer (some ⟨R, oR + i * 5, none⟩) | none => .pointer none) ∧ w' = w := Any.unicode_lookupCaseRange Tryd.lays274 T R oR cap r w hT hok hn
def Tryd.lays275_ren : Go.Shelf.Ren := ⟨fun | 275 => 101 | n => n, fun | 3 => 3 | 21 => 21 | 160 => 134 | 0 => 0 | 208 => 167 | 206 => 165 | 4 => 4 | 51 => 126 | n => n, fun | n => n⟩
theorem Tryd.lays275 : Go.Proofs.Lays.n275 Tryd.prog Tryd.lays275_ren := {
  mixed := by kernel_rfl
  f275 := Tryd.func101.trans (congrArg some (by kernel_rfl))
  t0 := Tryd.underlying0
  a0 := Tryd.isAgg0
  z0 := Tryd.sizeOf0
  v0 := Tryd.zeroValue0
  t3 := Tryd.underlying3
  a3 := Tryd.isAgg3
  z3 := Tryd.sizeOf3
  v3 := Tryd.zeroValue3
  t4 := Tryd.underlying4
  a4 := Tryd.isAgg4
  z4 := Tryd.sizeOf4
  v4 := Tryd.zeroValue4
  t21 := Tryd.underlying21
  a21 := Tryd.isAgg21
  z21 := Tryd.sizeOf21
  v21 := Tryd.zeroValue21
  t51 := Tryd.underlying126
  a51 := Tryd.isAgg126
  z51 := Tryd.sizeOf126
  v51 := Tryd.zeroValue126
  t160 := Tryd.underlying134
  a160 := Tryd.isAgg134
  z160 := Tryd.sizeOf134
  v160 := Tryd.zeroValue134
  t206 := Tryd.underlying165
  a206 := Tryd.isAgg165
  z206 := Tryd.sizeOf165
  v206 := Tryd.zeroValue165
  t208 := Tryd.underlying167
  a208 := Tryd.isAgg167
  z208 := Tryd.sizeOf167
  v208 := Tryd.zeroValue167 }
open Go.RowKit Go.Lib in
theorem Tryd.unicode_convertCase (c : Nat) (hc : c < 3) (r : Int) (A o : Nat) (x : CaseRow) (w : World) (hlo : (x.1 : Int) ≤ r) (hhi : r ≤ (x.2.1 : Int)) (hH : x.2.1 < 2147483647) (c0 : w.cell? ⟨A, o, none⟩ = some (.int .u32 x.1)) (cD : w.cell? ⟨A, o + 2 + c, none⟩ = some (.int .i32 (x.delta c))) :
    Calls Tryd.prog 101 #[.int .i64 c, .int .i32 r, .pointer (some ⟨A, o, none⟩)] w fun e w' => e = .returned (.int .i32 (wrap32 (convertR c r x))) ∧ ∃ q, w' = w.drewN q := Any.unicode_convertCase Tryd.lays275 c hc r A o x w hlo hhi hH c0 cD
def Tryd.lays313_ren : Go.Shelf.Ren := ⟨fun | 313 => 105 | 274 => 100 | 275 => 101 | n => n, fun | 3 => 3 | 21 => 21 | 162 => 136 | 4 => 4 | 160 => 134 | 46 => 110 | 0 => 0 | 208 => 167 | 51 => 126 | 206 => 165 | n => n, fun | n => n⟩
theorem Tryd.lays313 : Go.Proofs.Lays.n313 Tryd.prog Tryd.lays313_ren := {
  mixed := by kernel_rfl
  f274 := Tryd.func100.trans (congrArg some (by kernel_rfl))
  f275 := Tryd.func101.trans (congrArg some (by kernel_rfl))
  f313 := Tryd.func105.trans (congrArg some (by kernel_rfl))
  t0 := Tryd.underlying0
  a0 := Tryd.isAgg0
  z0 := Tryd.sizeOf0
  v0 := Tryd.zeroValue0
  t3 := Tryd.underlying3
  a3 := Tryd.isAgg3
  z3 := Tryd.sizeOf3
  v3 := Tryd.zeroValue3
  t4 := Tryd.underlying4
  a4 := Tryd.isAgg4
  z4 := Tryd.sizeOf4
  v4 := Tryd.zeroValue4
  t21 := Tryd.underlying21
  a21 := Tryd.isAgg21
  z21 := Tryd.sizeOf21
  v21 := Tryd.zeroValue21
  t46 := Tryd.underlying110
  a46 := Tryd.isAgg110
  z46 := Tryd.sizeOf110
  v46 := Tryd.zeroValue110
  t51 := Tryd.underlying126
  a51 := Tryd.isAgg126
  z51 := Tryd.sizeOf126
  v51 := Tryd.zeroValue126
  t160 := Tryd.underlying134
  a160 := Tryd.isAgg134
  z160 := Tryd.sizeOf134
  v160 := Tryd.zeroValue134
  t162 := Tryd.underlying136
  a162 := Tryd.isAgg136
  z162 := Tryd.sizeOf136
  v162 := Tryd.zeroValue136
  t206 := Tryd.underlying165
  a206 := Tryd.isAgg165
  z206 := Tryd.sizeOf165
  v206 := Tryd.zeroValue165
  t208 := Tryd.underlying167
  a208 := Tryd.isAgg167
  z208 := Tryd.sizeOf167
  v208 := Tryd.zeroValue167 }
open Go.RowKit Go.Lib in
theorem Tryd.unicode_to (c : Nat) (hc : c < 3) (r : Int) (T : Array CaseRow) (R oR cap : Nat) (w : World) (hT : CaseTab R oR T w) (hok : CaseOk2 T) (hn : T.size ≤ 1000000000) :
    Calls Tryd.prog 105 #[.int .i64 c, .int .i32 r, .slice (some ⟨R, oR, none⟩) T.size cap] w fun e w' => e = .returned (.tuple #[.int .i32 (toW T c r), .bool (lookupIdx T r (T.size + 1) 0 T.size).isSome]) ∧ ∃ q, w' = w.drewN q := Any.unicode_to Tryd.lays313 c hc r T R oR cap w hT hok hn
def Tryd.lays262_ren : Go.Shelf.Ren := ⟨fun | 262 => 90 | 313 => 105 | 274 => 100 | 275 => 101 | n => n, fun | 3 => 3 | 21 => 21 | 162 => 136 | 203 => 142 | 4 => 4 | 160 => 134 | 46 => 110 | 0 => 0 | 208 => 167 | 51 => 126 | 206 => 165 | n => n, fun | 13 => 5 | n => n⟩
theorem Tryd.lays262 : Go.Proofs.Lays.n262 Tryd.prog Tryd.lays262_ren := {
  mixed := by kernel_rfl
  f262 := Tryd.func90.trans (congrArg some (by kernel_rfl))
  f274 := Tryd.func100.trans (congrArg some (by kernel_rfl))
  f275 := Tryd.func101.trans (congrArg some (by kernel_rfl))
  f313 := Tryd.func105.trans (congrArg some (by kernel_rfl))
  t0 := Tryd.underlying0
  a0 := Tryd.isAgg0
  z0 := Tryd.sizeOf0
  v0 := Tryd.zeroValue0
  t3 := Tryd.underlying3
  a3 := Tryd.isAgg3
  z3 := Tryd.sizeOf3
  v3 := Tryd.zeroValue3
  t4 := Tryd.underlying4
  a4 := Tryd.isAgg4
  z4 := Tryd.sizeOf4
  v4 := Tryd.zeroValue4
  t21 := Tryd.underlying21
  a21 := Tryd.isAgg21
  z21 := Tryd.sizeOf21
  v21 := Tryd.zeroValue21
  t46 := Tryd.underlying110
  a46 := Tryd.isAgg110
  z46 := Tryd.sizeOf110
  v46 := Tryd.zeroValue110
  t51 := Tryd.underlying126
  a51 := Tryd.isAgg126
  z51 := Tryd.sizeOf126
  v51 := Tryd.zeroValue126
  t160 := Tryd.underlying134
  a160 := Tryd.isAgg134
  z160 := Tryd.sizeOf134
  v160 := Tryd.zeroValue134
  t162 := Tryd.underlying136
  a162 := Tryd.isAgg136
  z162 := Tryd.sizeOf136
  v162 := Tryd.zeroValue136
  t203 := Tryd.underlying142
  a203 := Tryd.isAgg142
  z203 := Tryd.sizeOf142
  v203 := Tryd.zeroValue142
  t206 := Tryd.underlying165
  a206 := Tryd.isAgg165
  z206 := Tryd.sizeOf165
  v206 := Tryd.zeroValue165
  t208 := Tryd.underlying167
  a208 := Tryd.isAgg167
  z208 := Tryd.sizeOf167
  v208 := Tryd.zeroValue167
  g13 := by kernel_rfl }
open Go.RowKit Go.Lib in
theorem Tryd.unicode_To (c : Nat) (hc : c < 3) (r : Int) (T : Array CaseRow) (w : World) (hV : CaseVar 5 T w) (hok : CaseOk2 T) (hn : T.size ≤ 1000000000) :
    Calls Tryd.prog 90 #[.int .i64 c, .int .i32 r] w fun e w' => e = .returned (.int .i32 (toW T c r)) ∧ ∃ q, w' = w.drewN q := Any.unicode_To Tryd.lays262 c hc r T w hV hok hn
open Go.RowKit Go.Lib in
theorem Tryd.unicode_ToUpper_any (r : Int) (T : Array CaseRow) (w : World) (hV : CaseVar 5 T w) (hok : CaseOk2 T) (hn : T.size ≤ 1000000000) :
    Calls Tryd.prog 75 #[.int .i32 r] w fun e w' => e = .returned (.int .i32 (Lib.toUpperW T r)) ∧ ∃ q, w' = w.drewN q := Any.unicode_ToUpper_any Tryd.lays203 r T w hV hok hn
open Go.RowKit Go.Lib in
theorem Tryd.unicode_ToUpper_laid (r : Int) (w : World) (hV : CaseVar 5 caseA w) :
    Calls Tryd.prog 75 #[.int .i32 r] w fun e w' => e = .returned (.int .i32 (toUpperU r)) ∧ ∃ q, w' = w.drewN q := Any.unicode_ToUpper_laid Tryd.lays203 r w hV
open Go.RowKit Go.Lib in
theorem Tryd.unicode_is16_any (T : Array Rg) (R oR cap : Nat) (z : Nat) (w : World) (hz : z < 65536) (hT : RgTab .u16 R oR T w) (hok : RgOk 65536 T) (hn : T.size ≤ 1000000000) :
    Calls Tryd.prog 112 #[.slice (some ⟨R, oR, none⟩) T.size cap, .int .u16 z] w fun e w' => e = .returned (.bool (is16Go T z)) ∧ ∃ q, w' = w.drewN q := Any.unicode_is16_any Tryd.lays311 T R oR cap z w hz hT hok hn
def Tryd.lays312_ren : Go.Shelf.Ren := ⟨fun | 312 => 113 | n => n, fun | 194 => 152 | 51 => 126 | 4 => 4 | 3 => 3 | 0 => 0 | 227 => 170 | 201 => 159 | 46 => 110 | n => n, fun | n => n⟩
theorem Tryd.lays312 : Go.Proofs.Lays.n312 Tryd.prog Tryd.lays312_ren := {
  mixed := by kernel_rfl
  f312 := Tryd.func113.trans (congrArg some (by kernel_rfl))
  t0 := Tryd.underlying0
  a0 := Tryd.isAgg0
  z0 := Tryd.sizeOf0
  v0 := Tryd.zeroValue0
  t3 := Tryd.underlying3
  a3 := Tryd.isAgg3
  z3 := Tryd.sizeOf3
  v3 := Tryd.zeroValue3
  t4 := Tryd.underlying4
  a4 := Tryd.isAgg4
  z4 := Tryd.sizeOf4
  v4 := Tryd.zeroValue4
  t46 := Tryd.underlying110
  a46 := Tryd.isAgg110
  z46 := Tryd.sizeOf110
  v46 := Tryd.zeroValue110
  t51 := Tryd.underlying126
  a51 := Tryd.isAgg126
  z51 := Tryd.sizeOf126
  v51 := Tryd.zeroValue126
  t194 := Tryd.underlying152
  a194 := Tryd.isAgg152
  z194 := Tryd.sizeOf152
  v194 := Tryd.zeroValue152
  t201 := Tryd.underlying159
  a201 := Tryd.isAgg159
  z201 := Tryd.sizeOf159
  v201 := Tryd.zeroValue159
  t227 := Tryd.underlying170
  a227 := Tryd.isAgg170
  z227 := Tryd.sizeOf170
  v227 := Tryd.zeroValue170 }
open Go.RowKit Go.Lib in
theorem Tryd.unicode_is32_any (T : Array Rg) (R oR cap : Nat) (z : Nat) (w : World) (hz : z < 4294967296) (hT : RgTab .u32 R oR T w) (hok : RgOk 4294967296 T) (hn : T.size ≤ 1000000000) :
    Calls Tryd.prog 113 #[.slice (some ⟨R, oR, none⟩) T.size cap, .int .u32 z] w fun e w' => e = .returned (.bool (is32Go T z)) ∧ Below w.heap.size w w' := Any.unicode_is32_any Tryd.lays312 T R oR cap z w hz hT hok hn
open Go.RowKit Go.Lib in
theorem Tryd.unicode_isExcludingLatin_any (Tb oT : Nat) (T : RTab) (r : Int) (w : World) (hlo : -2147483648 ≤ r) (hhi : r ≤ 2147483647) (hA : RTabAt Tb oT T w) (hok : RTabOk T) :
    Calls Tryd.prog 97 #[.pointer (some ⟨Tb, oT, none⟩), .int .i32 r] w fun e w' => e = .returned (.bool (exclGo T r)) ∧ Below w.heap.size w w' := Any.unicode_isExcludingLatin_any Tryd.lays261 Tb oT T r w hlo hhi hA hok
def Tryd.lays109_ren : Go.Shelf.Ren := ⟨fun | 109 => 67 | n => n, fun | 31 => 41 | 9 => 9 | 3 => 3 | 0 => 0 | 4 => 4 | n => n, fun | n => n⟩
theorem Tryd.lays109 : Go.Proofs.Lays.n109 Tryd.prog Tryd.lays109_ren := {
  mixed := by kernel_rfl
  f109 := Tryd.func67.trans (congrArg some (by kernel_rfl))
  t0 := Tryd.underlying0
  a0 := Tryd.isAgg0
  z0 := Tryd.sizeOf0
  v0 := Tryd.zeroValue0
  t3 := Tryd.underlying3
  a3 := Tryd.isAgg3
  z3 := Tryd.sizeOf3
  v3 := Tryd.zeroValue3
  t4 := Tryd.underlying4
  a4 := Tryd.isAgg4
  z4 := Tryd.sizeOf4
  v4 := Tryd.zeroValue4
  t9 := Tryd.underlying9
  a9 := Tryd.isAgg9
  z9 := Tryd.sizeOf9
  v9 := Tryd.zeroValue9
  t31 := Tryd.underlying41
  a31 := Tryd.isAgg41
  z31 := Tryd.sizeOf41
  v31 := Tryd.zeroValue41 }
open Go.Lib in
/-- slices.Index at []string: "Index returns the index of the first occurrence of v in s, or -1 if not present.": IT RETURNS 'Lib.idxOfS (the elements) v'; the world is as it was. 'zs': what the cells behind the slice's address hold (its spare capacity too, if you have it); 'zs.take n': its elements. (LAID: no walk: one application.) -/
theorem Tryd.slices_Index_string (b off n c : Nat) (zs : List ByteArray) (x : ByteArray) (w : World) (hz : n ≤ zs.length) (hbig : n ≤ 9223372036854775807) (hc : ∀ j, j < zs.length → w.cell? ⟨b, off + j, none⟩ = some (.string (zs.getD j ByteArray.empty))) :
    Calls Tryd.prog 67 #[.slice (some ⟨b, off, none⟩) n c, .string x] w fun e w' => e = .returned (.int .i64 (Lib.idxOfS (zs.take n) x)) ∧ w' = w := Any.slices_Index_string Tryd.lays109 b off n c zs x w hz hbig hc
open Go.Lib in
/-- The same at a slice of length 0, a nil one too: no cell is known, none is asked for. (LAID: no walk: one application.) -/
theorem Tryd.slices_Index_string_empty (a : Option Addr) (c : Nat) (x : ByteArray) (w : World) :
    Calls Tryd.prog 67 #[.slice a 0 c, .string x] w fun e w' => e = .returned (.int .i64 (Lib.idxOfS [] x)) ∧ w' = w := Any.slices_Index_string_empty Tryd.lays109 a c x w
def Tryd.lays110_ren : Go.Shelf.Ren := ⟨fun | 110 => 52 | 109 => 67 | n => n, fun | 31 => 41 | 9 => 9 | 4 => 4 | 3 => 3 | 0 => 0 | n => n, fun | n => n⟩
theorem Tryd.lays110 : Go.Proofs.Lays.n110 Tryd.prog Tryd.lays110_ren := {
  mixed := by kernel_rfl
  f109 := Tryd.func67.trans (congrArg some (by kernel_rfl))
  f110 := Tryd.func52.trans (congrArg some (by kernel_rfl))
  t0 := Tryd.underlying0
  a0 := Tryd.isAgg0
  z0 := Tryd.sizeOf0
  v0 := Tryd.zeroValue0
  t3 := Tryd.underlying3
  a3 := Tryd.isAgg3
  z3 := Tryd.sizeOf3
  v3 := Tryd.zeroValue3
  t4 := Tryd.underlying4
  a4 := Tryd.isAgg4
  z4 := Tryd.sizeOf4
  v4 := Tryd.zeroValue4
  t9 := Tryd.underlying9
  a9 := Tryd.isAgg9
  z9 := Tryd.sizeOf9
  v9 := Tryd.zeroValue9
  t31 := Tryd.underlying41
  a31 := Tryd.isAgg41
  z31 := Tryd.sizeOf41
  v31 := Tryd.zeroValue41 }
open Go.Lib in
/-- slices.Contains at []string: "Contains reports whether v is present in s.": IT RETURNS 'Lib.containsS (the elements) v', which is true just where v is among them ('Lib.containsS_iff'); the world is as it was. ITS CALLEE slices.Index IS MET BY ITS OWN CONTRACT OFF THE SHELF (lay that first): no loop is walked here. (LAID: no walk: one application.) -/
theorem Tryd.slices_Contains_string (b off n c : Nat) (zs : List ByteArray) (x : ByteArray) (w : World) (hz : n ≤ zs.length) (hbig : n ≤ 9223372036854775807) (hc : ∀ j, j < zs.length → w.cell? ⟨b, off + j, none⟩ = some (.string (zs.getD j ByteArray.empty))) :
    Calls Tryd.prog 52 #[.slice (some ⟨b, off, none⟩) n c, .string x] w fun e w' => e = .returned (.bool (Lib.containsS (zs.take n) x)) ∧ w' = w := Any.slices_Contains_string Tryd.lays110 b off n c zs x w hz hbig hc
open Go.Lib in
/-- The same at a slice of length 0, a nil one too. (LAID: no walk: one application.) -/
theorem Tryd.slices_Contains_string_empty (a : Option Addr) (c : Nat) (x : ByteArray) (w : World) :
    Calls Tryd.prog 52 #[.slice a 0 c, .string x] w fun e w' => e = .returned (.bool false) ∧ w' = w := Any.slices_Contains_string_empty Tryd.lays110 a c x w
end Go.Proofs
