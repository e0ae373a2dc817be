/-
  DERIVED: THE SHELF's CONTRACTS AT THIS DUMP, IN PLAIN WORDS (tools/lay-plain.mjs out of 'TryzShelf.lean', which tools/lay-shelf.mjs wrote): THE SAME DECLARATIONS UNDER THE SAME NAMES: 'import', 'namespace', 'open', 'def', 'theorem' AND NOTHING ELSE: no command of the shelf's: FOR A HAND-IN. Each laying: the table of numbers ('.._ren') and one theorem, a field a fact of the dump's own or the kernel's comparison; each contract: ONE APPLICATION.
-/
import Derived.Shelf.Strings.Builder1
import Derived.Shelf.Strings.Builder2
import Derived.Shelf.Strings.OnBuilder
import Derived.Shelf.Strings.Trim
import Derived.Shelf.Small.Utf8
import Derived.Shelf.Small.Bits
import Derived.Shelf.Small.Strs
import Derived.Shelf.Strings.BuilderF
import Derived.Shelf.Strings.BuilderK
import Derived.Shelf.Utf8.AppendRune
import Derived.Shelf.Strconv.Bsearch
import Derived.Shelf.Strconv.IsPrint
import Derived.Shelf.Strconv.IsPrint16
import Derived.Shelf.Strconv.IsPrint32
import Derived.Shelf.Strconv.Escaped
import Derived.Shelf.Strconv.Quoted
import Derived.Shelf.Strconv.Quote
import Derived.Shelf.Strconv.Itoa0
import Derived.Shelf.Strconv.Itoa1
import Derived.Shelf.LaysM
import Derived.Shelf.Strconv.Itoa2
import Derived.Shelf.Strconv.Itoa3
import Derived.Shelf.Strconv.Itoa4
import Derived.Ground.MpProg
import Derived.Shelf.Pu.ParseUintPublic10
import Derived.Shelf.Pu.ErrVarParseUint
import Derived.Shelf.Strings.Search1
import Derived.Shelf.Sort.Plain
import Derived.Shelf.SortM.Plain
import Derived.Shelf.SlGeneric
import Derived.Ground.SlgmProg
import Derived.Shelf.Strings.Runes
import Derived.Shelf.Strings.AsciiSet
import Derived.Shelf.Bits.Mul64
import Derived.Shelf.Unicode.DecodeSlow
import Derived.Shelf.Unicode.DecodeAny
import Derived.Shelf.Slices.In.SortNone
import Derived.Shelf.Slices.In.SortNone2
import Derived.Test.YtdeejmkjhmpabaaGreatDoorProg
namespace Go.Proofs
open Go.Shelf
def Tryz.lays169_ren : Go.Shelf.Ren := ⟨fun | 169 => 53 | n => n, fun | 70 => 101 | 9 => 9 | 0 => 0 | 72 => 104 | 37 => 102 | 127 => 134 | 3 => 3 | 5 => 5 | n => n, fun | n => n⟩
theorem Tryz.lays169 : Go.Proofs.Lays.n169 Tryz.prog Tryz.lays169_ren := {
  mixed := by kernel_rfl
  f169 := Tryz.func53.trans (congrArg some (by kernel_rfl))
  t0 := Tryz.underlying0
  a0 := Tryz.isAgg0
  z0 := Tryz.sizeOf0
  v0 := Tryz.zeroValue0
  t3 := Tryz.underlying3
  a3 := Tryz.isAgg3
  z3 := Tryz.sizeOf3
  v3 := Tryz.zeroValue3
  t9 := Tryz.underlying9
  a9 := Tryz.isAgg9
  z9 := Tryz.sizeOf9
  v9 := Tryz.zeroValue9
  t37 := Tryz.underlying102
  a37 := Tryz.isAgg102
  z37 := Tryz.sizeOf102
  v37 := Tryz.zeroValue102
  t70 := Tryz.underlying101
  a70 := Tryz.isAgg101
  z70 := Tryz.sizeOf101
  v70 := Tryz.zeroValue101
  t72 := Tryz.underlying104
  a72 := Tryz.isAgg104
  z72 := Tryz.sizeOf104
  v72 := Tryz.zeroValue104
  t127 := Tryz.underlying134
  a127 := Tryz.isAgg134
  z127 := Tryz.sizeOf134
  v127 := Tryz.zeroValue134 }
theorem Tryz.Builder_Extra_169 : Builder.Extra Tryz.prog Tryz.lays169_ren := {
  sizeBuilder := by kernel_rfl
  liesBuilder := by kernel_rfl
  t5 := Tryz.underlying5
  a5 := Tryz.isAgg5
  z5 := Tryz.sizeOf5
  v5 := Tryz.zeroValue5
  infoByte := by kernel_rfl
  cellsByte := by kernel_rfl
  sizeByte := by kernel_rfl
  neB5 := by decide }
open Go.RowKit in
/-- (*strings.Builder).String: "String returns the accumulated string.": OF A BUILDER THAT HOLDS AT LEAST ONE BYTE. ✋ THE MODEL FREEZES THOSE BYTES IN THE BUFFER (unsafe.String): a later write INTO them ends the model's run without an answer; a later append BEHIND them goes on. The statement's order of evaluation is drawn: one draw. (LAID: no walk: one application.) -/
theorem Tryz.Builder_String (B b : Nat) (l : List UInt8) (w : World) (h : Lib.IsBuilder 104 5 B b (Lib.byteCells l) w) (h0 : l ≠ []) :
    Calls Tryz.prog 53 #[.pointer (some ⟨b, 0, none⟩)] w fun e w' => e = .returned (.string ⟨l.toArray⟩) ∧ Below B w w' := Any.Builder_String Tryz.lays169 Tryz.Builder_Extra_169 B b l w h h0
open Go.RowKit in
/-- (*strings.Builder).String OF A BUILDER THAT HOLDS NO BYTE: the empty string. (Its buffer is nil, or a row of which it has taken nothing yet; where that row has NO capacity the model lays one new block for unsafe.SliceData's 'some address'.) One draw. (LAID: no walk: one application.) -/
theorem Tryz.Builder_String_empty (B b : Nat) (w : World) (h : Lib.IsBuilder 104 5 B b [] w) (hBw : B ≤ w.heap.size) :
    Calls Tryz.prog 53 #[.pointer (some ⟨b, 0, none⟩)] w fun e w' => e = .returned (.string ⟨#[]⟩) ∧ Below B w w' := Any.Builder_String_empty Tryz.lays169 Tryz.Builder_Extra_169 B b w h hBw
open Go.RowKit in
/-- (*strings.Builder).String: "String returns the accumulated string.": WHATEVER THE BUILDER HOLDS. (LAID: no walk: one application.) -/
theorem Tryz.Builder_String_any (B b : Nat) (l : List UInt8) (w : World) (h : Lib.IsBuilder 104 5 B b (Lib.byteCells l) w) (hBw : B ≤ w.heap.size) :
    Calls Tryz.prog 53 #[.pointer (some ⟨b, 0, none⟩)] w fun e w' => e = .returned (.string ⟨l.toArray⟩) ∧ Below B w w' := Any.Builder_String_any Tryz.lays169 Tryz.Builder_Extra_169 B b l w h hBw
def Tryz.lays241_ren : Go.Shelf.Ren := ⟨fun | 241 => 79 | 277 => 112 | n => n, fun | 70 => 101 | 3 => 3 | 0 => 0 | 72 => 104 | 37 => 102 | 5 => 5 | n => n, fun | n => n⟩
theorem Tryz.lays241 : Go.Proofs.Lays.n241 Tryz.prog Tryz.lays241_ren := {
  mixed := by kernel_rfl
  f241 := Tryz.func79.trans (congrArg some (by kernel_rfl))
  f277 := Tryz.func112.trans (congrArg some (by kernel_rfl))
  t0 := Tryz.underlying0
  a0 := Tryz.isAgg0
  z0 := Tryz.sizeOf0
  v0 := Tryz.zeroValue0
  t3 := Tryz.underlying3
  a3 := Tryz.isAgg3
  z3 := Tryz.sizeOf3
  v3 := Tryz.zeroValue3
  t37 := Tryz.underlying102
  a37 := Tryz.isAgg102
  z37 := Tryz.sizeOf102
  v37 := Tryz.zeroValue102
  t70 := Tryz.underlying101
  a70 := Tryz.isAgg101
  z70 := Tryz.sizeOf101
  v70 := Tryz.zeroValue101
  t72 := Tryz.underlying104
  a72 := Tryz.isAgg104
  z72 := Tryz.sizeOf104
  v72 := Tryz.zeroValue104 }
theorem Tryz.Builder_Extra_241 : Builder.Extra Tryz.prog Tryz.lays241_ren := {
  sizeBuilder := by kernel_rfl
  liesBuilder := by kernel_rfl
  t5 := Tryz.underlying5
  a5 := Tryz.isAgg5
  z5 := Tryz.sizeOf5
  v5 := Tryz.zeroValue5
  infoByte := by kernel_rfl
  cellsByte := by kernel_rfl
  sizeByte := by kernel_rfl
  neB5 := by decide }
open Go.RowKit in
/-- (*strings.Builder).grow (no doc but "grow copies the buffer to a new, larger buffer so that there are at least n bytes of capacity beyond len(b.buf)."): AT A BUILDER WITHOUT A BUFFER: a new row of whatever bytes for its buffer, none of them its own yet. Three draws. (LAID: no walk: one application.) -/
theorem Tryz.Builder_grow_fresh (B b n : Nat) (w : World) (hB : B ≤ b) (hbk : w.heap[b]? = some (.cells #[.pointer (some ⟨b, 0, none⟩), .slice none 0 0] 104 (0, 0))) (hBw : B ≤ w.heap.size) (hn : n ≤ 281474976710656) :
    Calls Tryz.prog 79 #[.pointer (some ⟨b, 0, none⟩), .int .i64 n] w fun e w' => e = .returned (.tuple #[]) ∧ (Lib.BuilderAt 104 5 B b (.pointer (some ⟨b, 0, none⟩)) [] w' ∧ Below B w w') := Any.Builder_grow_fresh Tryz.lays241 Tryz.Builder_Extra_241 B b n w hB hbk hBw hn
def Tryz.lays165_ren : Go.Shelf.Ren := ⟨fun | 165 => 51 | 240 => 78 | 241 => 79 | 276 => 111 | 277 => 112 | n => n, fun | 70 => 101 | 3 => 3 | 0 => 0 | 4 => 4 | 9 => 9 | 20 => 20 | 72 => 104 | 37 => 102 | 164 => 167 | 5 => 5 | n => n, fun | n => n⟩
theorem Tryz.lays165 : Go.Proofs.Lays.n165 Tryz.prog Tryz.lays165_ren := {
  mixed := by kernel_rfl
  f165 := Tryz.func51.trans (congrArg some (by kernel_rfl))
  f240 := Tryz.func78.trans (congrArg some (by kernel_rfl))
  f241 := Tryz.func79.trans (congrArg some (by kernel_rfl))
  f276 := Tryz.func111.trans (congrArg some (by kernel_rfl))
  f277 := Tryz.func112.trans (congrArg some (by kernel_rfl))
  t0 := Tryz.underlying0
  a0 := Tryz.isAgg0
  z0 := Tryz.sizeOf0
  v0 := Tryz.zeroValue0
  t3 := Tryz.underlying3
  a3 := Tryz.isAgg3
  z3 := Tryz.sizeOf3
  v3 := Tryz.zeroValue3
  t4 := Tryz.underlying4
  a4 := Tryz.isAgg4
  z4 := Tryz.sizeOf4
  v4 := Tryz.zeroValue4
  t9 := Tryz.underlying9
  a9 := Tryz.isAgg9
  z9 := Tryz.sizeOf9
  v9 := Tryz.zeroValue9
  t20 := Tryz.underlying20
  a20 := Tryz.isAgg20
  z20 := Tryz.sizeOf20
  v20 := Tryz.zeroValue20
  t37 := Tryz.underlying102
  a37 := Tryz.isAgg102
  z37 := Tryz.sizeOf102
  v37 := Tryz.zeroValue102
  t70 := Tryz.underlying101
  a70 := Tryz.isAgg101
  z70 := Tryz.sizeOf101
  v70 := Tryz.zeroValue101
  t72 := Tryz.underlying104
  a72 := Tryz.isAgg104
  z72 := Tryz.sizeOf104
  v72 := Tryz.zeroValue104
  t164 := Tryz.underlying167
  a164 := Tryz.isAgg167
  z164 := Tryz.sizeOf167
  v164 := Tryz.zeroValue167 }
theorem Tryz.Builder_Extra_165 : Builder.Extra Tryz.prog Tryz.lays165_ren := {
  sizeBuilder := by kernel_rfl
  liesBuilder := by kernel_rfl
  t5 := Tryz.underlying5
  a5 := Tryz.isAgg5
  z5 := Tryz.sizeOf5
  v5 := Tryz.zeroValue5
  infoByte := by kernel_rfl
  cellsByte := by kernel_rfl
  sizeByte := by kernel_rfl
  neB5 := by decide }
open Go.RowKit in
/-- (*strings.Builder).Grow AT A BUILDER THAT HAS NOT BEEN WRITTEN ('var b strings.Builder; b.Grow(n)'): "Grow grows b's capacity, if necessary, to guarantee space for another n bytes.": it holds no byte behind it as before it. (LAID: no walk: one application.) -/
theorem Tryz.Builder_Grow_fresh (B b n : Nat) (w : World) (hB : B ≤ b) (hbk : w.heap[b]? = some (.cells #[.pointer none, .slice none 0 0] 104 (0, 0))) (hBw : B ≤ w.heap.size) (hn : n ≤ 281474976710656) :
    Calls Tryz.prog 51 #[.pointer (some ⟨b, 0, none⟩), .int .i64 n] w fun e w' => e = .returned (.tuple #[]) ∧ (Lib.BuilderAt 104 5 B b (.pointer (some ⟨b, 0, none⟩)) [] w' ∧ Below B w w') := Any.Builder_Grow_fresh Tryz.lays165 Tryz.Builder_Extra_165 B b n w hB hbk hBw hn
def Tryz.lays156_ren : Go.Shelf.Ren := ⟨fun | 156 => 26 | 165 => 51 | 166 => 52 | 169 => 53 | 240 => 78 | 241 => 79 | 276 => 111 | 277 => 112 | n => n, fun | 31 => 57 | 9 => 9 | 3 => 3 | 4 => 4 | 0 => 0 | 20 => 20 | 72 => 104 | 76 => 106 | 70 => 101 | 37 => 102 | 75 => 97 | 127 => 134 | 164 => 167 | 5 => 5 | 80 => 82 | n => n, fun | n => n⟩
theorem Tryz.lays156 : Go.Proofs.Lays.n156 Tryz.prog Tryz.lays156_ren := {
  mixed := by kernel_rfl
  f156 := Tryz.func26.trans (congrArg some (by kernel_rfl))
  f165 := Tryz.func51.trans (congrArg some (by kernel_rfl))
  f166 := Tryz.func52.trans (congrArg some (by kernel_rfl))
  f169 := Tryz.func53.trans (congrArg some (by kernel_rfl))
  f240 := Tryz.func78.trans (congrArg some (by kernel_rfl))
  f241 := Tryz.func79.trans (congrArg some (by kernel_rfl))
  f276 := Tryz.func111.trans (congrArg some (by kernel_rfl))
  f277 := Tryz.func112.trans (congrArg some (by kernel_rfl))
  t0 := Tryz.underlying0
  a0 := Tryz.isAgg0
  z0 := Tryz.sizeOf0
  v0 := Tryz.zeroValue0
  t3 := Tryz.underlying3
  a3 := Tryz.isAgg3
  z3 := Tryz.sizeOf3
  v3 := Tryz.zeroValue3
  t4 := Tryz.underlying4
  a4 := Tryz.isAgg4
  z4 := Tryz.sizeOf4
  v4 := Tryz.zeroValue4
  t9 := Tryz.underlying9
  a9 := Tryz.isAgg9
  z9 := Tryz.sizeOf9
  v9 := Tryz.zeroValue9
  t20 := Tryz.underlying20
  a20 := Tryz.isAgg20
  z20 := Tryz.sizeOf20
  v20 := Tryz.zeroValue20
  t31 := Tryz.underlying57
  a31 := Tryz.isAgg57
  z31 := Tryz.sizeOf57
  v31 := Tryz.zeroValue57
  t37 := Tryz.underlying102
  a37 := Tryz.isAgg102
  z37 := Tryz.sizeOf102
  v37 := Tryz.zeroValue102
  t70 := Tryz.underlying101
  a70 := Tryz.isAgg101
  z70 := Tryz.sizeOf101
  v70 := Tryz.zeroValue101
  t72 := Tryz.underlying104
  a72 := Tryz.isAgg104
  z72 := Tryz.sizeOf104
  v72 := Tryz.zeroValue104
  t75 := Tryz.underlying97
  a75 := Tryz.isAgg97
  z75 := Tryz.sizeOf97
  v75 := Tryz.zeroValue97
  t76 := Tryz.underlying106
  a76 := Tryz.isAgg106
  z76 := Tryz.sizeOf106
  v76 := Tryz.zeroValue106
  t127 := Tryz.underlying134
  a127 := Tryz.isAgg134
  z127 := Tryz.sizeOf134
  v127 := Tryz.zeroValue134
  t164 := Tryz.underlying167
  a164 := Tryz.isAgg167
  z164 := Tryz.sizeOf167
  v164 := Tryz.zeroValue167 }
theorem Tryz.Builder_Extra_156 : Builder.Extra Tryz.prog Tryz.lays156_ren := {
  sizeBuilder := by kernel_rfl
  liesBuilder := by kernel_rfl
  t5 := Tryz.underlying5
  a5 := Tryz.isAgg5
  z5 := Tryz.sizeOf5
  v5 := Tryz.zeroValue5
  infoByte := by kernel_rfl
  cellsByte := by kernel_rfl
  sizeByte := by kernel_rfl
  neB5 := by decide }
open Go.RowKit in
/-- No element: the empty string; the world is as it was. (Whatever the slice's address and capacity: a nil slice too.) (LAID: no walk: one application.) -/
theorem Tryz.strings_Join_none (a : Option Addr) (c : Nat) (sep : ByteArray) (w : World) :
    Calls Tryz.prog 26 #[.slice a 0 c, .string sep] w fun e w' => e = .returned (.string ⟨#[]⟩) ∧ w' = w := Any.strings_Join_none Tryz.lays156 Tryz.Builder_Extra_156 a c sep w
open Go.RowKit in
/-- strings.Join: "Join concatenates the elements of its first argument to create a single string. The separator string sep is placed between elements in the resulting string.": HOWEVER MANY ELEMENTS. Below the heap's end the world is as it was. (LAID: no walk: one application.) -/
theorem Tryz.strings_Join (bk o c : Nat) (xs : List ByteArray) (sep : ByteArray) (w : World) (hcells : ∀ (j : Nat) x, xs[j]? = some x → w.cell? ⟨bk, o + j, none⟩ = some (.string x)) (hbk : bk < w.heap.size) (hN : xs.length ≤ 140737488355328) (hcap : xs.length ≤ c) (hlen : (Lib.join (xs.map (·.data.toList)) sep.data.toList).length ≤ 140737488355328) :
    Calls Tryz.prog 26 #[.slice (some ⟨bk, o, none⟩) xs.length c, .string sep] w fun e w' => e = .returned (.string ⟨(Lib.join (xs.map (·.data.toList)) sep.data.toList).toArray⟩) ∧ Below w.heap.size w w' := Any.strings_Join Tryz.lays156 Tryz.Builder_Extra_156 bk o c xs sep w hcells hbk hN hcap hlen
def Tryz.lays232_ren : Go.Shelf.Ren := ⟨fun | 232 => 81 | n => n, fun | 9 => 9 | 5 => 5 | 3 => 3 | 4 => 4 | n => n, fun | n => n⟩
theorem Tryz.lays232 : Go.Proofs.Lays.n232 Tryz.prog Tryz.lays232_ren := {
  mixed := by kernel_rfl
  f232 := Tryz.func81.trans (congrArg some (by kernel_rfl))
  t3 := Tryz.underlying3
  a3 := Tryz.isAgg3
  z3 := Tryz.sizeOf3
  v3 := Tryz.zeroValue3
  t4 := Tryz.underlying4
  a4 := Tryz.isAgg4
  z4 := Tryz.sizeOf4
  v4 := Tryz.zeroValue4
  t5 := Tryz.underlying5
  a5 := Tryz.isAgg5
  z5 := Tryz.sizeOf5
  v5 := Tryz.zeroValue5
  t9 := Tryz.underlying9
  a9 := Tryz.isAgg9
  z9 := Tryz.sizeOf9
  v9 := Tryz.zeroValue9 }
open Go.RowKit in
/-- strings.trimRightByte (no doc; what TrimRight and Trim call at a cutset of one ASCII byte): the trailing bytes that are c are cut off. The world is as it was. ('hs': a string's length is a number that an int holds.) (LAID: no walk: one application.) -/
theorem Tryz.strings_trimRightByte (s : ByteArray) (c : UInt8) (w : World) (hs : s.size ≤ 9223372036854775807) :
    Calls Tryz.prog 81 #[.string s, .int .u8 c.toNat] w fun e w' => e = .returned (.string ⟨(Lib.trimRightB s.data.toList c).toArray⟩) ∧ w' = w := Any.strings_trimRightByte Tryz.lays232 s c w hs
def Tryz.lays162_ren : Go.Shelf.Ren := ⟨fun | 162 => 55 | 232 => 81 | 227 => 82 | 234 => 83 | 236 => 84 | 228 => 117 | 271 => 118 | 151 => 119 | 120 => 156 | 197 => 109 | 152 => 157 | 260 => 147 | 137 => 173 | 119 => 151 | 224 => 174 | 225 => 175 | 217 => 190 | 266 => 197 | n => n, fun | 9 => 9 | 4 => 4 | 3 => 3 | 5 => 5 | 117 => 138 | 116 => 137 | 0 => 0 | 124 => 141 | 21 => 21 | 105 => 164 | 46 => 132 | 119 => 223 | 139 => 226 | 138 => 225 | n => n, fun | 3 => 5 | 4 => 6 | n => n⟩
theorem Tryz.lays162 : Go.Proofs.Lays.n162 Tryz.prog Tryz.lays162_ren := {
  mixed := by kernel_rfl
  f119 := Tryz.func151.trans (congrArg some (by kernel_rfl))
  f120 := Tryz.func156.trans (congrArg some (by kernel_rfl))
  f137 := Tryz.func173.trans (congrArg some (by kernel_rfl))
  f151 := Tryz.func119.trans (congrArg some (by kernel_rfl))
  f152 := Tryz.func157.trans (congrArg some (by kernel_rfl))
  f162 := Tryz.func55.trans (congrArg some (by kernel_rfl))
  f197 := Tryz.func109.trans (congrArg some (by kernel_rfl))
  f217 := Tryz.func190.trans (congrArg some (by kernel_rfl))
  f224 := Tryz.func174.trans (congrArg some (by kernel_rfl))
  f225 := Tryz.func175.trans (congrArg some (by kernel_rfl))
  f227 := Tryz.func82.trans (congrArg some (by kernel_rfl))
  f228 := Tryz.func117.trans (congrArg some (by kernel_rfl))
  f232 := Tryz.func81.trans (congrArg some (by kernel_rfl))
  f234 := Tryz.func83.trans (congrArg some (by kernel_rfl))
  f236 := Tryz.func84.trans (congrArg some (by kernel_rfl))
  f260 := Tryz.func147.trans (congrArg some (by kernel_rfl))
  f266 := Tryz.func197.trans (congrArg some (by kernel_rfl))
  f271 := Tryz.func118.trans (congrArg some (by kernel_rfl))
  t0 := Tryz.underlying0
  a0 := Tryz.isAgg0
  z0 := Tryz.sizeOf0
  v0 := Tryz.zeroValue0
  t3 := Tryz.underlying3
  a3 := Tryz.isAgg3
  z3 := Tryz.sizeOf3
  v3 := Tryz.zeroValue3
  t4 := Tryz.underlying4
  a4 := Tryz.isAgg4
  z4 := Tryz.sizeOf4
  v4 := Tryz.zeroValue4
  t5 := Tryz.underlying5
  a5 := Tryz.isAgg5
  z5 := Tryz.sizeOf5
  v5 := Tryz.zeroValue5
  t9 := Tryz.underlying9
  a9 := Tryz.isAgg9
  z9 := Tryz.sizeOf9
  v9 := Tryz.zeroValue9
  t21 := Tryz.underlying21
  a21 := Tryz.isAgg21
  z21 := Tryz.sizeOf21
  v21 := Tryz.zeroValue21
  t46 := Tryz.underlying132
  a46 := Tryz.isAgg132
  z46 := Tryz.sizeOf132
  v46 := Tryz.zeroValue132
  t105 := Tryz.underlying164
  a105 := Tryz.isAgg164
  z105 := Tryz.sizeOf164
  v105 := Tryz.zeroValue164
  t116 := Tryz.underlying137
  a116 := Tryz.isAgg137
  z116 := Tryz.sizeOf137
  t117 := Tryz.underlying138
  a117 := Tryz.isAgg138
  z117 := Tryz.sizeOf138
  v117 := Tryz.zeroValue138
  t119 := Tryz.underlying223
  a119 := Tryz.isAgg223
  z119 := Tryz.sizeOf223
  t124 := Tryz.underlying141
  a124 := Tryz.isAgg141
  z124 := Tryz.sizeOf141
  v124 := Tryz.zeroValue141
  t138 := Tryz.underlying225
  a138 := Tryz.isAgg225
  z138 := Tryz.sizeOf225
  v138 := Tryz.zeroValue225
  t139 := Tryz.underlying226
  a139 := Tryz.isAgg226
  z139 := Tryz.sizeOf226
  v139 := Tryz.zeroValue226
  g3 := by kernel_rfl
  g4 := by kernel_rfl }
open Go.RowKit in
/-- strings.TrimRight: "TrimRight returns a slice of the string s, with all trailing Unicode code points contained in cutset removed.": AT A cutset OF ONE ASCII BYTE. The world is as it was. (LAID: no walk: one application.) -/
theorem Tryz.strings_TrimRight_one (s : ByteArray) (c : UInt8) (hc : c.toNat < 128) (w : World) (hs : s.size ≤ 9223372036854775807) :
    Calls Tryz.prog 55 #[.string s, .string ⟨#[c]⟩] w fun e w' => e = .returned (.string ⟨(Lib.trimRightB s.data.toList c).toArray⟩) ∧ w' = w := Any.strings_TrimRight_one Tryz.lays162 s c hc w hs
def Tryz.lays119_ren : Go.Shelf.Ren := ⟨fun | 119 => 151 | n => n, fun | 21 => 21 | 4 => 4 | n => n, fun | n => n⟩
theorem Tryz.lays119 : Go.Proofs.Lays.n119 Tryz.prog Tryz.lays119_ren := {
  mixed := by kernel_rfl
  f119 := Tryz.func151.trans (congrArg some (by kernel_rfl))
  t4 := Tryz.underlying4
  a4 := Tryz.isAgg4
  z4 := Tryz.sizeOf4
  v4 := Tryz.zeroValue4
  t21 := Tryz.underlying21
  a21 := Tryz.isAgg21
  z21 := Tryz.sizeOf21
  v21 := Tryz.zeroValue21 }
/-- utf8.ValidRune: "ValidRune reports whether r can be legally encoded as UTF-8. Code points that are out of range or a surrogate half are illegal.": IT RETURNS 'Lib.validRune r'; the world is as it was. (LAID: no walk: one application.) -/
theorem Tryz.utf8_ValidRune (r : Int) (w : World) :
    Calls Tryz.prog 151 #[.int .i32 r] w fun e w' => e = .returned (.bool (Lib.validRune r)) ∧ w' = w := Any.utf8_ValidRune Tryz.lays119 r w
def Tryz.lays120_ren : Go.Shelf.Ren := ⟨fun | 120 => 156 | n => n, fun | 5 => 5 | 4 => 4 | n => n, fun | n => n⟩
theorem Tryz.lays120 : Go.Proofs.Lays.n120 Tryz.prog Tryz.lays120_ren := {
  mixed := by kernel_rfl
  f120 := Tryz.func156.trans (congrArg some (by kernel_rfl))
  t4 := Tryz.underlying4
  a4 := Tryz.isAgg4
  z4 := Tryz.sizeOf4
  v4 := Tryz.zeroValue4
  t5 := Tryz.underlying5
  a5 := Tryz.isAgg5
  z5 := Tryz.sizeOf5
  v5 := Tryz.zeroValue5 }
/-- utf8.RuneStart: "RuneStart reports whether the byte could be the first byte of an encoded, possibly invalid rune. Second and subsequent bytes always have the top two bits set to 10.": IT RETURNS 'Lib.runeStart b'; the world is as it was. ('h0', 'h1': b is a byte: a caller has it of every byte that it was handed.) (LAID: no walk: one application.) -/
theorem Tryz.utf8_RuneStart (b : Int) (w : World) (h0 : 0 ≤ b) (h1 : b < 256) :
    Calls Tryz.prog 156 #[.int .u8 b] w fun e w' => e = .returned (.bool (Lib.runeStart b)) ∧ w' = w := Any.utf8_RuneStart Tryz.lays120 b w h0 h1
def Tryz.lays128_ren : Go.Shelf.Ren := ⟨fun | 128 => 107 | n => n, fun | 51 => 162 | 3 => 3 | 4 => 4 | 46 => 132 | 5 => 5 | 9 => 9 | n => n, fun | n => n⟩
theorem Tryz.lays128 : Go.Proofs.Lays.n128 Tryz.prog Tryz.lays128_ren := {
  mixed := by kernel_rfl
  f128 := Tryz.func107.trans (congrArg some (by kernel_rfl))
  t3 := Tryz.underlying3
  a3 := Tryz.isAgg3
  z3 := Tryz.sizeOf3
  v3 := Tryz.zeroValue3
  t4 := Tryz.underlying4
  a4 := Tryz.isAgg4
  z4 := Tryz.sizeOf4
  v4 := Tryz.zeroValue4
  t5 := Tryz.underlying5
  a5 := Tryz.isAgg5
  z5 := Tryz.sizeOf5
  v5 := Tryz.zeroValue5
  t9 := Tryz.underlying9
  a9 := Tryz.isAgg9
  z9 := Tryz.sizeOf9
  v9 := Tryz.zeroValue9
  t46 := Tryz.underlying132
  a46 := Tryz.isAgg132
  z46 := Tryz.sizeOf132
  v46 := Tryz.zeroValue132
  t51 := Tryz.underlying162
  a51 := Tryz.isAgg162
  z51 := Tryz.sizeOf162
  v51 := Tryz.zeroValue162 }
/-- bits.Len32: "Len32 returns the minimum number of bits required to represent x; the result is 0 for x == 0.": IT RETURNS 'Lib.bitLen x'; the world is as it was. ('h0', 'h1': x is a uint32.) (LAID: no walk: one application.) -/
theorem Tryz.bits_Len32 (x : Int) (w : World) (h0 : 0 ≤ x) (h1 : x ≤ 4294967295) :
    Calls Tryz.prog 107 #[.int .u32 x] w fun e w' => e = .returned (.int .i64 (Lib.bitLen x.toNat)) ∧ w' = w := Any.bits_Len32 Tryz.lays128 x w h0 h1
def Tryz.lays125_ren : Go.Shelf.Ren := ⟨fun | 125 => 76 | 128 => 107 | 129 => 108 | n => n, fun | 46 => 132 | 3 => 3 | 51 => 162 | 53 => 38 | 4 => 4 | 5 => 5 | 9 => 9 | n => n, fun | n => n⟩
theorem Tryz.lays125 : Go.Proofs.Lays.n125 Tryz.prog Tryz.lays125_ren := {
  mixed := by kernel_rfl
  f125 := Tryz.func76.trans (congrArg some (by kernel_rfl))
  f128 := Tryz.func107.trans (congrArg some (by kernel_rfl))
  f129 := Tryz.func108.trans (congrArg some (by kernel_rfl))
  t3 := Tryz.underlying3
  a3 := Tryz.isAgg3
  z3 := Tryz.sizeOf3
  v3 := Tryz.zeroValue3
  t4 := Tryz.underlying4
  a4 := Tryz.isAgg4
  z4 := Tryz.sizeOf4
  v4 := Tryz.zeroValue4
  t5 := Tryz.underlying5
  a5 := Tryz.isAgg5
  z5 := Tryz.sizeOf5
  v5 := Tryz.zeroValue5
  t9 := Tryz.underlying9
  a9 := Tryz.isAgg9
  z9 := Tryz.sizeOf9
  v9 := Tryz.zeroValue9
  t46 := Tryz.underlying132
  a46 := Tryz.isAgg132
  z46 := Tryz.sizeOf132
  v46 := Tryz.zeroValue132
  t51 := Tryz.underlying162
  a51 := Tryz.isAgg162
  z51 := Tryz.sizeOf162
  v51 := Tryz.zeroValue162
  t53 := Tryz.underlying38
  a53 := Tryz.isAgg38
  z53 := Tryz.sizeOf38
  v53 := Tryz.zeroValue38 }
/-- bits.Len: "Len returns the minimum number of bits required to represent x; the result is 0 for x == 0.": IT RETURNS 'Lib.bitLen x'; the world is as it was. (A uint has 64 bits in the model.) ITS CALLEE bits.Len64 IS MET BY ITS OWN CONTRACT OFF THE SHELF (lay that first). (LAID: no walk: one application.) -/
theorem Tryz.bits_Len (x : Int) (w : World) (h0 : 0 ≤ x) (h1 : x ≤ 18446744073709551615) :
    Calls Tryz.prog 76 #[.int .u64 x] w fun e w' => e = .returned (.int .i64 (Lib.bitLen x.toNat)) ∧ w' = w := Any.bits_Len Tryz.lays125 x w h0 h1
def Tryz.lays137_ren : Go.Shelf.Ren := ⟨fun | 137 => 173 | 217 => 190 | 266 => 197 | n => n, fun | 9 => 9 | 5 => 5 | 3 => 3 | n => n, fun | n => n⟩
theorem Tryz.lays137 : Go.Proofs.Lays.n137 Tryz.prog Tryz.lays137_ren := {
  mixed := by kernel_rfl
  f137 := Tryz.func173.trans (congrArg some (by kernel_rfl))
  f217 := Tryz.func190.trans (congrArg some (by kernel_rfl))
  f266 := Tryz.func197.trans (congrArg some (by kernel_rfl))
  t3 := Tryz.underlying3
  a3 := Tryz.isAgg3
  z3 := Tryz.sizeOf3
  v3 := Tryz.zeroValue3
  t5 := Tryz.underlying5
  a5 := Tryz.isAgg5
  z5 := Tryz.sizeOf5
  v5 := Tryz.zeroValue5
  t9 := Tryz.underlying9
  a9 := Tryz.isAgg9
  z9 := Tryz.sizeOf9
  v9 := Tryz.zeroValue9 }
open Go.RowKit in
/-- strings.IndexByte: "IndexByte returns the index of the first instance of c in s, or -1 if c is not present in s.": IT RETURNS 'Lib.indexByte s c'; the world is as it was. (LAID: no walk: one application.) -/
theorem Tryz.strings_IndexByte (s : ByteArray) (c : Int) (w : World) :
    Calls Tryz.prog 173 #[.string s, .int .u8 c] w fun e w' => e = .returned (.int .i64 (Lib.indexByte s.data.toList c.toNat.toUInt8)) ∧ w' = w := Any.strings_IndexByte Tryz.lays137 s c w
open Go.RowKit in
/-- (*strings.Builder).String: "String returns the accumulated string.": OF A BUILDER THAT HOLDS AT LEAST ONE BYTE. ✋ THE MODEL FREEZES THOSE BYTES IN THE BUFFER (unsafe.String): a later write INTO them ends the model's run without an answer; a later append BEHIND them goes on. The statement's order of evaluation is drawn: one draw. THE FORM '_f': IT SAYS BESIDES THAT THE BUILDER IS A BUILDER STILL ('Lib.IsBuilderF', the same bytes): SO IT CAN BE WRITTEN ON: 'b.WriteString(b.String()[:k])'. (LAID: no walk: one application.) -/
theorem Tryz.Builder_String_f (B b : Nat) (l : List UInt8) (w : World) (h : Lib.IsBuilderF 104 5 B b (Lib.byteCells l) w) (h0 : l ≠ []) :
    Calls Tryz.prog 53 #[.pointer (some ⟨b, 0, none⟩)] w fun e w' => e = .returned (.string ⟨l.toArray⟩) ∧ (Lib.IsBuilderF 104 5 B b (Lib.byteCells l) w' ∧ Below B w w') := Any.Builder_String_f Tryz.lays169 Tryz.Builder_Extra_169 B b l w h h0
open Go.RowKit in
/-- (*strings.Builder).String OF A BUILDER THAT HOLDS NO BYTE: the empty string; THE FORM '_f': a builder still. (LAID: no walk: one application.) -/
theorem Tryz.Builder_String_empty_f (B b : Nat) (w : World) (h : Lib.IsBuilderF 104 5 B b [] w) (hBw : B ≤ w.heap.size) :
    Calls Tryz.prog 53 #[.pointer (some ⟨b, 0, none⟩)] w fun e w' => e = .returned (.string ⟨#[]⟩) ∧ (Lib.IsBuilderF 104 5 B b [] w' ∧ Below B w w') := Any.Builder_String_empty_f Tryz.lays169 Tryz.Builder_Extra_169 B b w h hBw
open Go.RowKit in
/-- (*strings.Builder).String: "String returns the accumulated string.": WHATEVER THE BUILDER HOLDS; THE FORM '_f': OF A BUILDER THAT MAY HAVE BEEN READ BEFORE; AND IT IS A BUILDER STILL, holding the same bytes: it can be written on. (LAID: no walk: one application.) -/
theorem Tryz.Builder_String_any_f (B b : Nat) (l : List UInt8) (w : World) (h : Lib.IsBuilderF 104 5 B b (Lib.byteCells l) w) (hBw : B ≤ w.heap.size) :
    Calls Tryz.prog 53 #[.pointer (some ⟨b, 0, none⟩)] w fun e w' => e = .returned (.string ⟨l.toArray⟩) ∧ (Lib.IsBuilderF 104 5 B b (Lib.byteCells l) w' ∧ Below B w w') := Any.Builder_String_any_f Tryz.lays169 Tryz.Builder_Extra_169 B b l w h hBw
open Go.RowKit in
/-- (*strings.Builder).String: "String returns the accumulated string.": OF A BUILDER THAT HOLDS AT LEAST ONE BYTE. ✋ THE MODEL FREEZES THOSE BYTES IN THE BUFFER (unsafe.String): a later write INTO them ends the model's run without an answer; a later append BEHIND them goes on. The statement's order of evaluation is drawn: one draw. THE FORM '_k': OVER 'Lib.IsBuilderF' (a builder that 'String()' may have read), AND WITH THE FRAME THAT REACHES ABOVE THE BUILDER: 'Lib.OthersKept': every block that is not b and is no row of uint8's stands as it stood: the iterator of a range among them. (LAID: no walk: one application.) -/
theorem Tryz.Builder_String_k (B b : Nat) (l : List UInt8) (w : World) (h : Lib.IsBuilderF 104 5 B b (Lib.byteCells l) w) (h0 : l ≠ []) :
    Calls Tryz.prog 53 #[.pointer (some ⟨b, 0, none⟩)] w fun e w' => e = .returned (.string ⟨l.toArray⟩) ∧ (Lib.IsBuilderF 104 5 B b (Lib.byteCells l) w' ∧ Below B w w' ∧ Lib.OthersKept 5 (some b) w w') := Any.Builder_String_k Tryz.lays169 Tryz.Builder_Extra_169 B b l w h h0
open Go.RowKit in
/-- (*strings.Builder).String OF A BUILDER THAT HOLDS NO BYTE: the empty string; THE FORM '_k': OVER 'Lib.IsBuilderF' (a builder that 'String()' may have read), AND WITH THE FRAME THAT REACHES ABOVE THE BUILDER: 'Lib.OthersKept': every block that is not b and is no row of uint8's stands as it stood: the iterator of a range among them. (LAID: no walk: one application.) -/
theorem Tryz.Builder_String_empty_k (B b : Nat) (w : World) (h : Lib.IsBuilderF 104 5 B b [] w) (hBw : B ≤ w.heap.size) :
    Calls Tryz.prog 53 #[.pointer (some ⟨b, 0, none⟩)] w fun e w' => e = .returned (.string ⟨#[]⟩) ∧ (Lib.IsBuilderF 104 5 B b [] w' ∧ Below B w w' ∧ Lib.OthersKept 5 (some b) w w') := Any.Builder_String_empty_k Tryz.lays169 Tryz.Builder_Extra_169 B b w h hBw
open Go.RowKit in
/-- (*strings.Builder).String: "String returns the accumulated string.": WHATEVER THE BUILDER HOLDS; THE FORM '_k': OVER 'Lib.IsBuilderF' (a builder that 'String()' may have read), AND WITH THE FRAME THAT REACHES ABOVE THE BUILDER: 'Lib.OthersKept': every block that is not b and is no row of uint8's stands as it stood: the iterator of a range among them. (LAID: no walk: one application.) -/
theorem Tryz.Builder_String_any_k (B b : Nat) (l : List UInt8) (w : World) (h : Lib.IsBuilderF 104 5 B b (Lib.byteCells l) w) (hBw : B ≤ w.heap.size) :
    Calls Tryz.prog 53 #[.pointer (some ⟨b, 0, none⟩)] w fun e w' => e = .returned (.string ⟨l.toArray⟩) ∧ (Lib.IsBuilderF 104 5 B b (Lib.byteCells l) w' ∧ Below B w w' ∧ Lib.OthersKept 5 (some b) w w') := Any.Builder_String_any_k Tryz.lays169 Tryz.Builder_Extra_169 B b l w h hBw
def Tryz.lays278_ren : Go.Shelf.Ren := ⟨fun | 278 => 170 | n => n, fun | 37 => 102 | 21 => 21 | 51 => 162 | 4 => 4 | 46 => 132 | 5 => 5 | n => n, fun | n => n⟩
theorem Tryz.lays278 : Go.Proofs.Lays.n278 Tryz.prog Tryz.lays278_ren := {
  mixed := by kernel_rfl
  f278 := Tryz.func170.trans (congrArg some (by kernel_rfl))
  t4 := Tryz.underlying4
  a4 := Tryz.isAgg4
  z4 := Tryz.sizeOf4
  v4 := Tryz.zeroValue4
  t5 := Tryz.underlying5
  a5 := Tryz.isAgg5
  z5 := Tryz.sizeOf5
  v5 := Tryz.zeroValue5
  t21 := Tryz.underlying21
  a21 := Tryz.isAgg21
  z21 := Tryz.sizeOf21
  v21 := Tryz.zeroValue21
  t37 := Tryz.underlying102
  a37 := Tryz.isAgg102
  z37 := Tryz.sizeOf102
  v37 := Tryz.zeroValue102
  t46 := Tryz.underlying132
  a46 := Tryz.isAgg132
  z46 := Tryz.sizeOf132
  v46 := Tryz.zeroValue132
  t51 := Tryz.underlying162
  a51 := Tryz.isAgg162
  z51 := Tryz.sizeOf162
  v51 := Tryz.zeroValue162 }
open Go.RowKit in
/-- unicode/utf8.appendRuneNonASCII (what AppendRune calls for all but ASCII), ONTO A ROW OF BYTES THAT THE CALL OWNS: every int32 that is no ASCII rune: 'Lib.runeCells r' goes in behind what the row holds. (LAID: no walk: one application.) -/
theorem Tryz.utf8_appendRuneNonASCII_row (B : Nat) (v : Value) (n : Nat) (xs : List Value) (r : Int) (hr0 : -2147483648 ≤ r) (hr1 : r ≤ 2147483647) (hna : r < 0 ∨ 128 ≤ r) (w : World) (hown : w.ownsRowF B 5 1 v n xs) (hlen : n + 4 ≤ 140737488355328) (hBw : B ≤ w.heap.size) :
    Calls Tryz.prog 170 #[v, .int .i32 r] w fun e w' => ∃ v', e = .returned v' ∧ w'.ownsRowF B 5 1 v' (n + (Lib.runeCells r).length) (xs ++ Lib.runeCells r) ∧ ∃ o, (w.alloc o).grownBy w' v.ownBlock := Any.utf8_appendRuneNonASCII_row Tryz.lays278 (by kernel_rfl) B v n xs r hr0 hr1 hna w hown hlen hBw
def Tryz.lays242_ren : Go.Shelf.Ren := ⟨fun | 242 => 150 | 278 => 170 | n => n, fun | 37 => 102 | 21 => 21 | 51 => 162 | 4 => 4 | 5 => 5 | 46 => 132 | n => n, fun | n => n⟩
theorem Tryz.lays242 : Go.Proofs.Lays.n242 Tryz.prog Tryz.lays242_ren := {
  mixed := by kernel_rfl
  f242 := Tryz.func150.trans (congrArg some (by kernel_rfl))
  f278 := Tryz.func170.trans (congrArg some (by kernel_rfl))
  t4 := Tryz.underlying4
  a4 := Tryz.isAgg4
  z4 := Tryz.sizeOf4
  v4 := Tryz.zeroValue4
  t5 := Tryz.underlying5
  a5 := Tryz.isAgg5
  z5 := Tryz.sizeOf5
  v5 := Tryz.zeroValue5
  t21 := Tryz.underlying21
  a21 := Tryz.isAgg21
  z21 := Tryz.sizeOf21
  v21 := Tryz.zeroValue21
  t37 := Tryz.underlying102
  a37 := Tryz.isAgg102
  z37 := Tryz.sizeOf102
  v37 := Tryz.zeroValue102
  t46 := Tryz.underlying132
  a46 := Tryz.isAgg132
  z46 := Tryz.sizeOf132
  v46 := Tryz.zeroValue132
  t51 := Tryz.underlying162
  a51 := Tryz.isAgg162
  z51 := Tryz.sizeOf162
  v51 := Tryz.zeroValue162 }
open Go.RowKit in
/-- unicode/utf8.AppendRune: "AppendRune appends the UTF-8 encoding of r to the end of p and returns the extended buffer. If the rune is out of range, it appends the encoding of RuneError.": ONTO A ROW OF BYTES THAT THE CALL OWNS (its head frozen or not): EVERY int32: 'Lib.runeCells r' goes in behind what the row holds; the world: one new block (the bytes as the call's variadic argument), then what 'append' does to the row. (LAID: no walk: one application.) -/
theorem Tryz.utf8_AppendRune_row (B : Nat) (v : Value) (n : Nat) (xs : List Value) (r : Int) (hr0 : -2147483648 ≤ r) (hr1 : r ≤ 2147483647) (w : World) (hown : w.ownsRowF B 5 1 v n xs) (hlen : n + 4 ≤ 140737488355328) (hBw : B ≤ w.heap.size) :
    Calls Tryz.prog 150 #[v, .int .i32 r] w fun e w' => ∃ v', e = .returned v' ∧ w'.ownsRowF B 5 1 v' (n + (Lib.runeCells r).length) (xs ++ Lib.runeCells r) ∧ ∃ o, (w.alloc o).grownBy w' v.ownBlock := Any.utf8_AppendRune_row Tryz.lays242 (by kernel_rfl) B v n xs r hr0 hr1 w hown hlen hBw
def Tryz.lays345_ren : Go.Shelf.Ren := ⟨fun | 345 => 168 | n => n, fun | 234 => 228 | 49 => 227 | 3 => 3 | 4 => 4 | 46 => 132 | 0 => 0 | n => n, fun | n => n⟩
theorem Tryz.lays345 : Go.Proofs.Lays.n345 Tryz.prog Tryz.lays345_ren := {
  mixed := by kernel_rfl
  f345 := Tryz.func168.trans (congrArg some (by kernel_rfl))
  t0 := Tryz.underlying0
  a0 := Tryz.isAgg0
  z0 := Tryz.sizeOf0
  v0 := Tryz.zeroValue0
  t3 := Tryz.underlying3
  a3 := Tryz.isAgg3
  z3 := Tryz.sizeOf3
  v3 := Tryz.zeroValue3
  t4 := Tryz.underlying4
  a4 := Tryz.isAgg4
  z4 := Tryz.sizeOf4
  v4 := Tryz.zeroValue4
  t46 := Tryz.underlying132
  a46 := Tryz.isAgg132
  z46 := Tryz.sizeOf132
  v46 := Tryz.zeroValue132
  t49 := Tryz.underlying227
  a49 := Tryz.isAgg227
  z49 := Tryz.sizeOf227
  v49 := Tryz.zeroValue227
  t234 := Tryz.underlying228
  a234 := Tryz.isAgg228
  z234 := Tryz.sizeOf228
  v234 := Tryz.zeroValue228 }
open Go.RowKit in
/-- strconv.bsearch[[]uint16,uint16]: a table of whatever numbers (sorted or not: WHAT IS SAID IS WHAT THE LOOP COMPUTES: 'Lib.bsearchI', 'Lib.bsearchFound'), at least one of them; draws alone (the last statement's order); nothing else turns. (LAID: no walk: one application.) -/
theorem Tryz.strconv_bsearch16 (R o c : Nat) (t : List Nat) (v : Nat) (w : World) (h0 : 0 < t.length) (hn : t.length ≤ 4611686018427387904) (hc : ∀ j, j < t.length → w.cell? ⟨R, o + j, none⟩ = some (.int .u16 (t.getD j 0))) :
    Calls Tryz.prog 168 #[.slice (some ⟨R, o, none⟩) t.length c, .int .u16 v] w fun e w' => e = .returned (.tuple #[.int .i64 (Lib.bsearchI t v), .bool (Lib.bsearchFound t v)]) ∧ ∃ q, w' = w.drewN q := Any.strconv_bsearch16 Tryz.lays345 R o c t v w h0 hn hc
def Tryz.lays346_ren : Go.Shelf.Ren := ⟨fun | 346 => 169 | n => n, fun | 236 => 230 | 51 => 162 | 3 => 3 | 4 => 4 | 46 => 132 | 0 => 0 | n => n, fun | n => n⟩
theorem Tryz.lays346 : Go.Proofs.Lays.n346 Tryz.prog Tryz.lays346_ren := {
  mixed := by kernel_rfl
  f346 := Tryz.func169.trans (congrArg some (by kernel_rfl))
  t0 := Tryz.underlying0
  a0 := Tryz.isAgg0
  z0 := Tryz.sizeOf0
  v0 := Tryz.zeroValue0
  t3 := Tryz.underlying3
  a3 := Tryz.isAgg3
  z3 := Tryz.sizeOf3
  v3 := Tryz.zeroValue3
  t4 := Tryz.underlying4
  a4 := Tryz.isAgg4
  z4 := Tryz.sizeOf4
  v4 := Tryz.zeroValue4
  t46 := Tryz.underlying132
  a46 := Tryz.isAgg132
  z46 := Tryz.sizeOf132
  v46 := Tryz.zeroValue132
  t51 := Tryz.underlying162
  a51 := Tryz.isAgg162
  z51 := Tryz.sizeOf162
  v51 := Tryz.zeroValue162
  t236 := Tryz.underlying230
  a236 := Tryz.isAgg230
  z236 := Tryz.sizeOf230
  v236 := Tryz.zeroValue230 }
open Go.RowKit in
/-- strconv.bsearch[[]uint32,uint32]: a table of whatever numbers (sorted or not: WHAT IS SAID IS WHAT THE LOOP COMPUTES: 'Lib.bsearchI', 'Lib.bsearchFound'), at least one of them; draws alone (the last statement's order); nothing else turns. (LAID: no walk: one application.) -/
theorem Tryz.strconv_bsearch32 (R o c : Nat) (t : List Nat) (v : Nat) (w : World) (h0 : 0 < t.length) (hn : t.length ≤ 4611686018427387904) (hc : ∀ j, j < t.length → w.cell? ⟨R, o + j, none⟩ = some (.int .u32 (t.getD j 0))) :
    Calls Tryz.prog 169 #[.slice (some ⟨R, o, none⟩) t.length c, .int .u32 v] w fun e w' => e = .returned (.tuple #[.int .i64 (Lib.bsearchI t v), .bool (Lib.bsearchFound t v)]) ∧ ∃ q, w' = w.drewN q := Any.strconv_bsearch32 Tryz.lays346 R o c t v w h0 hn hc
def Tryz.lays339_ren : Go.Shelf.Ren := ⟨fun | 339 => 148 | 345 => 168 | 346 => 169 | n => n, fun | 21 => 21 | 4 => 4 | 49 => 227 | 234 => 228 | 131 => 159 | 3 => 3 | 0 => 0 | 51 => 162 | 236 => 230 | 46 => 132 | n => n, fun | 20 => 7 | 21 => 8 | 22 => 9 | 23 => 10 | n => n⟩
theorem Tryz.lays339 : Go.Proofs.Lays.n339 Tryz.prog Tryz.lays339_ren := {
  mixed := by kernel_rfl
  f339 := Tryz.func148.trans (congrArg some (by kernel_rfl))
  f345 := Tryz.func168.trans (congrArg some (by kernel_rfl))
  f346 := Tryz.func169.trans (congrArg some (by kernel_rfl))
  t0 := Tryz.underlying0
  a0 := Tryz.isAgg0
  z0 := Tryz.sizeOf0
  v0 := Tryz.zeroValue0
  t3 := Tryz.underlying3
  a3 := Tryz.isAgg3
  z3 := Tryz.sizeOf3
  v3 := Tryz.zeroValue3
  t4 := Tryz.underlying4
  a4 := Tryz.isAgg4
  z4 := Tryz.sizeOf4
  v4 := Tryz.zeroValue4
  t21 := Tryz.underlying21
  a21 := Tryz.isAgg21
  z21 := Tryz.sizeOf21
  v21 := Tryz.zeroValue21
  t46 := Tryz.underlying132
  a46 := Tryz.isAgg132
  z46 := Tryz.sizeOf132
  v46 := Tryz.zeroValue132
  t49 := Tryz.underlying227
  a49 := Tryz.isAgg227
  z49 := Tryz.sizeOf227
  v49 := Tryz.zeroValue227
  t51 := Tryz.underlying162
  a51 := Tryz.isAgg162
  z51 := Tryz.sizeOf162
  v51 := Tryz.zeroValue162
  t131 := Tryz.underlying159
  a131 := Tryz.isAgg159
  z131 := Tryz.sizeOf159
  v131 := Tryz.zeroValue159
  t234 := Tryz.underlying228
  a234 := Tryz.isAgg228
  z234 := Tryz.sizeOf228
  v234 := Tryz.zeroValue228
  t236 := Tryz.underlying230
  a236 := Tryz.isAgg230
  z236 := Tryz.sizeOf230
  v236 := Tryz.zeroValue230
  g20 := by kernel_rfl
  g21 := by kernel_rfl
  g22 := by kernel_rfl
  g23 := by kernel_rfl }
open Go.RowKit in
/-- strconv.IsPrint AT r ≤ 0xFF, negative ones too ('Fast check for Latin-1'): no table is read; nothing turns. (LAID: no walk: one application.) -/
theorem Tryz.strconv_IsPrint_latin (r : Int) (w : World) (hr : r ≤ 255) :
    Calls Tryz.prog 148 #[.int .i32 r] w fun e w' => e = .returned (.bool (Lib.isPrintLatin r)) ∧ w' = w := Any.strconv_IsPrint_latin Tryz.lays339 r w hr
open Go.RowKit in
/-- strconv.IsPrint AT 0xFF < r < 0x10000: two of the four tables are read. (LAID: no walk: one application.) -/
theorem Tryz.strconv_IsPrint_16 (T : Lib.PrintTabs) (r : Nat) (w : World) (h1 : 255 < r) (h2 : r < 65536) (hT : Lib.PrintTabsAt 7 8 9 10 T w) :
    Calls Tryz.prog 148 #[.int .i32 r] w fun e w' => e = .returned (.bool (Lib.isPrintR T r)) ∧ ∃ q, w' = w.drewN q := Any.strconv_IsPrint_16 Tryz.lays339 T r w h1 h2 hT
open Go.RowKit in
/-- strconv.IsPrint AT 0xFFFF < r (an int32): the two other tables are read. (LAID: no walk: one application.) -/
theorem Tryz.strconv_IsPrint_32 (T : Lib.PrintTabs) (r : Nat) (w : World) (h1 : 65535 < r) (h2 : r < 2147483648) (hT : Lib.PrintTabsAt 7 8 9 10 T w) :
    Calls Tryz.prog 148 #[.int .i32 r] w fun e w' => e = .returned (.bool (Lib.isPrintR T r)) ∧ ∃ q, w' = w.drewN q := Any.strconv_IsPrint_32 Tryz.lays339 T r w h1 h2 hT
open Go.RowKit in
/-- strconv.IsPrint AT EVERY int32: 'Lib.isPrintR T r', the four tables as 'Lib.PrintTabsAt' says; draws alone. (LAID: no walk: one application.) -/
theorem Tryz.strconv_IsPrint (T : Lib.PrintTabs) (r : Int) (w : World) (hlo : -2147483648 ≤ r) (hhi : r ≤ 2147483647) (hT : Lib.PrintTabsAt 7 8 9 10 T w) :
    Calls Tryz.prog 148 #[.int .i32 r] w fun e w' => e = .returned (.bool (Lib.isPrintR T r)) ∧ ∃ q, w' = w.drewN q := Any.strconv_IsPrint Tryz.lays339 T r w hlo hhi hT
def Tryz.lays323_ren : Go.Shelf.Ren := ⟨fun | 323 => 110 | 339 => 148 | 340 => 149 | 242 => 150 | 119 => 151 | 345 => 168 | 346 => 169 | 278 => 170 | n => n, fun | 37 => 102 | 21 => 21 | 5 => 5 | 4 => 4 | 9 => 9 | 46 => 132 | 3 => 3 | 49 => 227 | 234 => 228 | 131 => 159 | 0 => 0 | 51 => 162 | 236 => 230 | n => n, fun | 20 => 7 | 21 => 8 | 22 => 9 | 23 => 10 | 24 => 11 | n => n⟩
theorem Tryz.lays323 : Go.Proofs.Lays.n323 Tryz.prog Tryz.lays323_ren := {
  mixed := by kernel_rfl
  f119 := Tryz.func151.trans (congrArg some (by kernel_rfl))
  f242 := Tryz.func150.trans (congrArg some (by kernel_rfl))
  f278 := Tryz.func170.trans (congrArg some (by kernel_rfl))
  f323 := Tryz.func110.trans (congrArg some (by kernel_rfl))
  f339 := Tryz.func148.trans (congrArg some (by kernel_rfl))
  f340 := Tryz.func149.trans (congrArg some (by kernel_rfl))
  f345 := Tryz.func168.trans (congrArg some (by kernel_rfl))
  f346 := Tryz.func169.trans (congrArg some (by kernel_rfl))
  t0 := Tryz.underlying0
  a0 := Tryz.isAgg0
  z0 := Tryz.sizeOf0
  v0 := Tryz.zeroValue0
  t3 := Tryz.underlying3
  a3 := Tryz.isAgg3
  z3 := Tryz.sizeOf3
  v3 := Tryz.zeroValue3
  t4 := Tryz.underlying4
  a4 := Tryz.isAgg4
  z4 := Tryz.sizeOf4
  v4 := Tryz.zeroValue4
  t5 := Tryz.underlying5
  a5 := Tryz.isAgg5
  z5 := Tryz.sizeOf5
  v5 := Tryz.zeroValue5
  t9 := Tryz.underlying9
  a9 := Tryz.isAgg9
  z9 := Tryz.sizeOf9
  v9 := Tryz.zeroValue9
  t21 := Tryz.underlying21
  a21 := Tryz.isAgg21
  z21 := Tryz.sizeOf21
  v21 := Tryz.zeroValue21
  t37 := Tryz.underlying102
  a37 := Tryz.isAgg102
  z37 := Tryz.sizeOf102
  v37 := Tryz.zeroValue102
  t46 := Tryz.underlying132
  a46 := Tryz.isAgg132
  z46 := Tryz.sizeOf132
  v46 := Tryz.zeroValue132
  t49 := Tryz.underlying227
  a49 := Tryz.isAgg227
  z49 := Tryz.sizeOf227
  v49 := Tryz.zeroValue227
  t51 := Tryz.underlying162
  a51 := Tryz.isAgg162
  z51 := Tryz.sizeOf162
  v51 := Tryz.zeroValue162
  t131 := Tryz.underlying159
  a131 := Tryz.isAgg159
  z131 := Tryz.sizeOf159
  v131 := Tryz.zeroValue159
  t234 := Tryz.underlying228
  a234 := Tryz.isAgg228
  z234 := Tryz.sizeOf228
  v234 := Tryz.zeroValue228
  t236 := Tryz.underlying230
  a236 := Tryz.isAgg230
  z236 := Tryz.sizeOf230
  v236 := Tryz.zeroValue230
  g20 := by kernel_rfl
  g21 := by kernel_rfl
  g22 := by kernel_rfl
  g23 := by kernel_rfl
  g24 := by kernel_rfl }
open Go.RowKit in
/-- THE QUOTE ITSELF OR A BACKSLASH: 'always backslashed'. (LAID: no walk: one application.) -/
theorem Tryz.strconv_appendEscapedRune_quoted (T : Lib.PrintTabs) (B : Nat) (v : Value) (n : Nat) (xs : List Value) (r : Int) (W0 w : World) (hb : Lib.OwnBuf B 5 v n xs W0 w) (hlen : n + 10 ≤ 140737488355328) (hT : Lib.PrintTabsAt 7 8 9 10 T w) (hr0 : 0 ≤ r) (hr1 : r ≤ 2147483647) (hq : r = 34 ∨ r = 92) :
    Calls Tryz.prog 110 #[v, .int .i32 r, .int .u8 34, .bool false, .bool false] w fun e w' => ∃ v', e = .returned v' ∧ Lib.OwnBuf B 5 v' (n + (Lib.escRune T r).length) (xs ++ Lib.intCells (Lib.escRune T r)) W0 w' := Any.strconv_appendEscapedRune_quoted Tryz.lays323 (by kernel_rfl) T B v n xs r W0 w hb hlen hT hr0 hr1 hq
open Go.RowKit in
/-- A RUNE THAT strconv.IsPrint LETS BY (and is neither the quote nor a backslash): its UTF-8 encoding, by utf8.AppendRune. (LAID: no walk: one application.) -/
theorem Tryz.strconv_appendEscapedRune_printable (T : Lib.PrintTabs) (B : Nat) (v : Value) (n : Nat) (xs : List Value) (r : Int) (W0 w : World) (hb : Lib.OwnBuf B 5 v n xs W0 w) (hlen : n + 10 ≤ 140737488355328) (hT : Lib.PrintTabsAt 7 8 9 10 T w) (hr0 : 0 ≤ r) (hr1 : r ≤ 2147483647) (hq1 : r ≠ 34) (hq2 : r ≠ 92) (hp : Lib.isPrintR T r = true) :
    Calls Tryz.prog 110 #[v, .int .i32 r, .int .u8 34, .bool false, .bool false] w fun e w' => ∃ v', e = .returned v' ∧ Lib.OwnBuf B 5 v' (n + (Lib.escRune T r).length) (xs ++ Lib.intCells (Lib.escRune T r)) W0 w' := Any.strconv_appendEscapedRune_printable Tryz.lays323 (by kernel_rfl) T B v n xs r W0 w hb hlen hT hr0 hr1 hq1 hq2 hp
open Go.RowKit in
/-- THE SEVEN THAT HAVE A LETTER: \\a \\b \\f \\n \\r \\t \\v. (LAID: no walk: one application.) -/
theorem Tryz.strconv_appendEscapedRune_named (T : Lib.PrintTabs) (B : Nat) (v : Value) (n : Nat) (xs : List Value) (r : Int) (W0 w : World) (hb : Lib.OwnBuf B 5 v n xs W0 w) (hlen : n + 10 ≤ 140737488355328) (hT : Lib.PrintTabsAt 7 8 9 10 T w) (hr0 : 0 ≤ r) (hr1 : r ≤ 2147483647) (hn : r = 7 ∨ r = 8 ∨ r = 12 ∨ r = 10 ∨ r = 13 ∨ r = 9 ∨ r = 11) :
    Calls Tryz.prog 110 #[v, .int .i32 r, .int .u8 34, .bool false, .bool false] w fun e w' => ∃ v', e = .returned v' ∧ Lib.OwnBuf B 5 v' (n + (Lib.escRune T r).length) (xs ++ Lib.intCells (Lib.escRune T r)) W0 w' := Any.strconv_appendEscapedRune_named Tryz.lays323 (by kernel_rfl) T B v n xs r W0 w hb hlen hT hr0 hr1 hn
open Go.RowKit in
/-- A CONTROL CHARACTER WITHOUT A LETTER, AND 0x7f: '\\x' AND TWO DIGITS. (LAID: no walk: one application.) -/
theorem Tryz.strconv_appendEscapedRune_hex2 (T : Lib.PrintTabs) (B : Nat) (v : Value) (n : Nat) (xs : List Value) (r : Int) (W0 w : World) (hb : Lib.OwnBuf B 5 v n xs W0 w) (hlen : n + 10 ≤ 140737488355328) (hT : Lib.PrintTabsAt 7 8 9 10 T w) (hr0 : 0 ≤ r) (hr1 : r ≤ 2147483647) (hx : r < 32 ∨ r = 127) (hn : ¬ (r = 7 ∨ r = 8 ∨ r = 12 ∨ r = 10 ∨ r = 13 ∨ r = 9 ∨ r = 11)) :
    Calls Tryz.prog 110 #[v, .int .i32 r, .int .u8 34, .bool false, .bool false] w fun e w' => ∃ v', e = .returned v' ∧ Lib.OwnBuf B 5 v' (n + (Lib.escRune T r).length) (xs ++ Lib.intCells (Lib.escRune T r)) W0 w' := Any.strconv_appendEscapedRune_hex2 Tryz.lays323 (by kernel_rfl) T B v n xs r W0 w hb hlen hT hr0 hr1 hx hn
open Go.RowKit in
/-- NOT PRINTABLE, FROM 0x80 ON, BELOW 0x10000, NO SURROGATE: '\\u' AND FOUR DIGITS. (LAID: no walk: one application.) -/
theorem Tryz.strconv_appendEscapedRune_u4 (T : Lib.PrintTabs) (B : Nat) (v : Value) (n : Nat) (xs : List Value) (r : Int) (W0 w : World) (hb : Lib.OwnBuf B 5 v n xs W0 w) (hlen : n + 10 ≤ 140737488355328) (hT : Lib.PrintTabsAt 7 8 9 10 T w) (hr0 : 0 ≤ r) (hr1 : r ≤ 2147483647) (h80 : 128 ≤ r) (hlt : r < 65536) (hv : Lib.validRune r = true) (hp : Lib.isPrintR T r = false) :
    Calls Tryz.prog 110 #[v, .int .i32 r, .int .u8 34, .bool false, .bool false] w fun e w' => ∃ v', e = .returned v' ∧ Lib.OwnBuf B 5 v' (n + (Lib.escRune T r).length) (xs ++ Lib.intCells (Lib.escRune T r)) W0 w' := Any.strconv_appendEscapedRune_u4 Tryz.lays323 (by kernel_rfl) T B v n xs r W0 w hb hlen hT hr0 hr1 h80 hlt hv hp
open Go.RowKit in
/-- NOT PRINTABLE, FROM 0x10000 ON, AT MOST 0x10FFFF: '\\U' AND EIGHT DIGITS. (LAID: no walk: one application.) -/
theorem Tryz.strconv_appendEscapedRune_u8 (T : Lib.PrintTabs) (B : Nat) (v : Value) (n : Nat) (xs : List Value) (r : Int) (W0 w : World) (hb : Lib.OwnBuf B 5 v n xs W0 w) (hlen : n + 10 ≤ 140737488355328) (hT : Lib.PrintTabsAt 7 8 9 10 T w) (hr0 : 0 ≤ r) (hr1 : r ≤ 2147483647) (h80 : 65536 ≤ r) (hv : Lib.validRune r = true) (hp : Lib.isPrintR T r = false) :
    Calls Tryz.prog 110 #[v, .int .i32 r, .int .u8 34, .bool false, .bool false] w fun e w' => ∃ v', e = .returned v' ∧ Lib.OwnBuf B 5 v' (n + (Lib.escRune T r).length) (xs ++ Lib.intCells (Lib.escRune T r)) W0 w' := Any.strconv_appendEscapedRune_u8 Tryz.lays323 (by kernel_rfl) T B v n xs r W0 w hb hlen hT hr0 hr1 h80 hv hp
open Go.RowKit in
/-- strconv.appendEscapedRune(buf, r, '"', false, false) AT EVERY VALID RUNE (what utf8.DecodeRuneInString hands back is one): IT APPENDS 'Lib.escRune T r'. ✋ a surrogate, a number beyond 0x10FFFF, a negative one: not walked: strconv.Quote never hands one in. (LAID: no walk: one application.) -/
theorem Tryz.strconv_appendEscapedRune (T : Lib.PrintTabs) (B : Nat) (v : Value) (n : Nat) (xs : List Value) (r : Int) (W0 w : World) (hb : Lib.OwnBuf B 5 v n xs W0 w) (hlen : n + 10 ≤ 140737488355328) (hT : Lib.PrintTabsAt 7 8 9 10 T w) (hv : Lib.validRune r = true) :
    Calls Tryz.prog 110 #[v, .int .i32 r, .int .u8 34, .bool false, .bool false] w fun e w' => ∃ v', e = .returned v' ∧ Lib.OwnBuf B 5 v' (n + (Lib.escRune T r).length) (xs ++ Lib.intCells (Lib.escRune T r)) W0 w' := Any.strconv_appendEscapedRune Tryz.lays323 (by kernel_rfl) T B v n xs r W0 w hb hlen hT hv
def Tryz.lays289_ren : Go.Shelf.Ren := ⟨fun | 289 => 77 | 197 => 109 | 323 => 110 | 260 => 147 | 339 => 148 | 340 => 149 | 242 => 150 | 119 => 151 | 345 => 168 | 346 => 169 | 278 => 170 | n => n, fun | 37 => 102 | 9 => 9 | 5 => 5 | 4 => 4 | 3 => 3 | 21 => 21 | 105 => 164 | 46 => 132 | 119 => 223 | 0 => 0 | 139 => 226 | 138 => 225 | 49 => 227 | 234 => 228 | 131 => 159 | 51 => 162 | 236 => 230 | n => n, fun | 3 => 5 | 4 => 6 | 20 => 7 | 21 => 8 | 22 => 9 | 23 => 10 | 24 => 11 | n => n⟩
theorem Tryz.lays289 : Go.Proofs.Lays.n289 Tryz.prog Tryz.lays289_ren := {
  mixed := by kernel_rfl
  f119 := Tryz.func151.trans (congrArg some (by kernel_rfl))
  f197 := Tryz.func109.trans (congrArg some (by kernel_rfl))
  f242 := Tryz.func150.trans (congrArg some (by kernel_rfl))
  f260 := Tryz.func147.trans (congrArg some (by kernel_rfl))
  f278 := Tryz.func170.trans (congrArg some (by kernel_rfl))
  f289 := Tryz.func77.trans (congrArg some (by kernel_rfl))
  f323 := Tryz.func110.trans (congrArg some (by kernel_rfl))
  f339 := Tryz.func148.trans (congrArg some (by kernel_rfl))
  f340 := Tryz.func149.trans (congrArg some (by kernel_rfl))
  f345 := Tryz.func168.trans (congrArg some (by kernel_rfl))
  f346 := Tryz.func169.trans (congrArg some (by kernel_rfl))
  t0 := Tryz.underlying0
  a0 := Tryz.isAgg0
  z0 := Tryz.sizeOf0
  v0 := Tryz.zeroValue0
  t3 := Tryz.underlying3
  a3 := Tryz.isAgg3
  z3 := Tryz.sizeOf3
  v3 := Tryz.zeroValue3
  t4 := Tryz.underlying4
  a4 := Tryz.isAgg4
  z4 := Tryz.sizeOf4
  v4 := Tryz.zeroValue4
  t5 := Tryz.underlying5
  a5 := Tryz.isAgg5
  z5 := Tryz.sizeOf5
  v5 := Tryz.zeroValue5
  t9 := Tryz.underlying9
  a9 := Tryz.isAgg9
  z9 := Tryz.sizeOf9
  v9 := Tryz.zeroValue9
  t21 := Tryz.underlying21
  a21 := Tryz.isAgg21
  z21 := Tryz.sizeOf21
  v21 := Tryz.zeroValue21
  t37 := Tryz.underlying102
  a37 := Tryz.isAgg102
  z37 := Tryz.sizeOf102
  v37 := Tryz.zeroValue102
  t46 := Tryz.underlying132
  a46 := Tryz.isAgg132
  z46 := Tryz.sizeOf132
  v46 := Tryz.zeroValue132
  t49 := Tryz.underlying227
  a49 := Tryz.isAgg227
  z49 := Tryz.sizeOf227
  v49 := Tryz.zeroValue227
  t51 := Tryz.underlying162
  a51 := Tryz.isAgg162
  z51 := Tryz.sizeOf162
  v51 := Tryz.zeroValue162
  t105 := Tryz.underlying164
  a105 := Tryz.isAgg164
  z105 := Tryz.sizeOf164
  v105 := Tryz.zeroValue164
  t119 := Tryz.underlying223
  a119 := Tryz.isAgg223
  z119 := Tryz.sizeOf223
  t131 := Tryz.underlying159
  a131 := Tryz.isAgg159
  z131 := Tryz.sizeOf159
  v131 := Tryz.zeroValue159
  t138 := Tryz.underlying225
  a138 := Tryz.isAgg225
  z138 := Tryz.sizeOf225
  v138 := Tryz.zeroValue225
  t139 := Tryz.underlying226
  a139 := Tryz.isAgg226
  z139 := Tryz.sizeOf226
  v139 := Tryz.zeroValue226
  t234 := Tryz.underlying228
  a234 := Tryz.isAgg228
  z234 := Tryz.sizeOf228
  v234 := Tryz.zeroValue228
  t236 := Tryz.underlying230
  a236 := Tryz.isAgg230
  z236 := Tryz.sizeOf230
  v236 := Tryz.zeroValue230
  g3 := by kernel_rfl
  g4 := by kernel_rfl
  g20 := by kernel_rfl
  g21 := by kernel_rfl
  g22 := by kernel_rfl
  g23 := by kernel_rfl
  g24 := by kernel_rfl }
open Go.RowKit in
/-- strconv.appendQuotedWith(buf, s, '"', false, false), buf with room for s ('cap(buf)-len(buf) >= len(s)': as quoteWith makes it). (LAID: no walk: one application.) -/
theorem Tryz.strconv_appendQuotedWith (T : Lib.PrintTabs) (a : Option Addr) (n c : Nat) (xs : List Value) (s : ByteArray) (W0 w : World) (hb : Lib.OwnBuf W0.heap.size 5 (.slice a n c) n xs W0 w) (hroom : n + s.size ≤ c) (hc : c ≤ 9223372036854775807) (hlen : n + 10 * s.size + 12 ≤ 140737488355328) (hT : Lib.PrintTabsAt 7 8 9 10 T W0) (hU : Lib.Utf8Tabs 5 6 W0) :
    Calls Tryz.prog 77 #[.slice a n c, .string s, .int .u8 34, .bool false, .bool false] w fun e w' => ∃ v', e = .returned v' ∧ Lib.OwnBuf W0.heap.size 5 v' (n + (Lib.quoteZ T s).length) (xs ++ Lib.intCells (Lib.quoteZ T s)) W0 w' := Any.strconv_appendQuotedWith Tryz.lays289 (by kernel_rfl) T a n c xs s W0 w hb hroom hc hlen hT hU
def Tryz.lays250_ren : Go.Shelf.Ren := ⟨fun | 250 => 50 | 289 => 77 | 197 => 109 | 323 => 110 | 260 => 147 | 339 => 148 | 340 => 149 | 242 => 150 | 119 => 151 | 345 => 168 | 346 => 169 | 278 => 170 | n => n, fun | 9 => 9 | 5 => 5 | 4 => 4 | 3 => 3 | 37 => 102 | 21 => 21 | 105 => 164 | 46 => 132 | 119 => 223 | 0 => 0 | 139 => 226 | 138 => 225 | 49 => 227 | 234 => 228 | 131 => 159 | 51 => 162 | 236 => 230 | n => n, fun | 3 => 5 | 4 => 6 | 20 => 7 | 21 => 8 | 22 => 9 | 23 => 10 | 24 => 11 | n => n⟩
theorem Tryz.lays250 : Go.Proofs.Lays.n250 Tryz.prog Tryz.lays250_ren := {
  mixed := by kernel_rfl
  f119 := Tryz.func151.trans (congrArg some (by kernel_rfl))
  f197 := Tryz.func109.trans (congrArg some (by kernel_rfl))
  f242 := Tryz.func150.trans (congrArg some (by kernel_rfl))
  f250 := Tryz.func50.trans (congrArg some (by kernel_rfl))
  f260 := Tryz.func147.trans (congrArg some (by kernel_rfl))
  f278 := Tryz.func170.trans (congrArg some (by kernel_rfl))
  f289 := Tryz.func77.trans (congrArg some (by kernel_rfl))
  f323 := Tryz.func110.trans (congrArg some (by kernel_rfl))
  f339 := Tryz.func148.trans (congrArg some (by kernel_rfl))
  f340 := Tryz.func149.trans (congrArg some (by kernel_rfl))
  f345 := Tryz.func168.trans (congrArg some (by kernel_rfl))
  f346 := Tryz.func169.trans (congrArg some (by kernel_rfl))
  t0 := Tryz.underlying0
  a0 := Tryz.isAgg0
  z0 := Tryz.sizeOf0
  v0 := Tryz.zeroValue0
  t3 := Tryz.underlying3
  a3 := Tryz.isAgg3
  z3 := Tryz.sizeOf3
  v3 := Tryz.zeroValue3
  t4 := Tryz.underlying4
  a4 := Tryz.isAgg4
  z4 := Tryz.sizeOf4
  v4 := Tryz.zeroValue4
  t5 := Tryz.underlying5
  a5 := Tryz.isAgg5
  z5 := Tryz.sizeOf5
  v5 := Tryz.zeroValue5
  t9 := Tryz.underlying9
  a9 := Tryz.isAgg9
  z9 := Tryz.sizeOf9
  v9 := Tryz.zeroValue9
  t21 := Tryz.underlying21
  a21 := Tryz.isAgg21
  z21 := Tryz.sizeOf21
  v21 := Tryz.zeroValue21
  t37 := Tryz.underlying102
  a37 := Tryz.isAgg102
  z37 := Tryz.sizeOf102
  v37 := Tryz.zeroValue102
  t46 := Tryz.underlying132
  a46 := Tryz.isAgg132
  z46 := Tryz.sizeOf132
  v46 := Tryz.zeroValue132
  t49 := Tryz.underlying227
  a49 := Tryz.isAgg227
  z49 := Tryz.sizeOf227
  v49 := Tryz.zeroValue227
  t51 := Tryz.underlying162
  a51 := Tryz.isAgg162
  z51 := Tryz.sizeOf162
  v51 := Tryz.zeroValue162
  t105 := Tryz.underlying164
  a105 := Tryz.isAgg164
  z105 := Tryz.sizeOf164
  v105 := Tryz.zeroValue164
  t119 := Tryz.underlying223
  a119 := Tryz.isAgg223
  z119 := Tryz.sizeOf223
  t131 := Tryz.underlying159
  a131 := Tryz.isAgg159
  z131 := Tryz.sizeOf159
  v131 := Tryz.zeroValue159
  t138 := Tryz.underlying225
  a138 := Tryz.isAgg225
  z138 := Tryz.sizeOf225
  v138 := Tryz.zeroValue225
  t139 := Tryz.underlying226
  a139 := Tryz.isAgg226
  z139 := Tryz.sizeOf226
  v139 := Tryz.zeroValue226
  t234 := Tryz.underlying228
  a234 := Tryz.isAgg228
  z234 := Tryz.sizeOf228
  v234 := Tryz.zeroValue228
  t236 := Tryz.underlying230
  a236 := Tryz.isAgg230
  z236 := Tryz.sizeOf230
  v236 := Tryz.zeroValue230
  g3 := by kernel_rfl
  g4 := by kernel_rfl
  g20 := by kernel_rfl
  g21 := by kernel_rfl
  g22 := by kernel_rfl
  g23 := by kernel_rfl
  g24 := by kernel_rfl }
open Go.RowKit in
/-- strconv.quoteWith(s, '"', false, false). (LAID: no walk: one application.) -/
theorem Tryz.strconv_quoteWith (T : Lib.PrintTabs) (s : ByteArray) (w : World) (hlen : 10 * s.size + 12 ≤ 140737488355328) (hT : Lib.PrintTabsAt 7 8 9 10 T w) (hU : Lib.Utf8Tabs 5 6 w) :
    Calls Tryz.prog 50 #[.string s, .int .u8 34, .bool false, .bool false] w fun e w' => e = .returned (.string (strOfNums (Lib.quoteZ T s))) ∧ Below w.heap.size w w' := Any.strconv_quoteWith Tryz.lays250 (by kernel_rfl) T s w hlen hT hU
def Tryz.lays177_ren : Go.Shelf.Ren := ⟨fun | 177 => 25 | 250 => 50 | 289 => 77 | 197 => 109 | 323 => 110 | 260 => 147 | 339 => 148 | 340 => 149 | 242 => 150 | 119 => 151 | 345 => 168 | 346 => 169 | 278 => 170 | n => n, fun | 9 => 9 | 5 => 5 | 4 => 4 | 3 => 3 | 37 => 102 | 21 => 21 | 105 => 164 | 46 => 132 | 119 => 223 | 0 => 0 | 139 => 226 | 138 => 225 | 49 => 227 | 234 => 228 | 131 => 159 | 51 => 162 | 236 => 230 | n => n, fun | 3 => 5 | 4 => 6 | 20 => 7 | 21 => 8 | 22 => 9 | 23 => 10 | 24 => 11 | n => n⟩
theorem Tryz.lays177 : Go.Proofs.Lays.n177 Tryz.prog Tryz.lays177_ren := {
  mixed := by kernel_rfl
  f119 := Tryz.func151.trans (congrArg some (by kernel_rfl))
  f177 := Tryz.func25.trans (congrArg some (by kernel_rfl))
  f197 := Tryz.func109.trans (congrArg some (by kernel_rfl))
  f242 := Tryz.func150.trans (congrArg some (by kernel_rfl))
  f250 := Tryz.func50.trans (congrArg some (by kernel_rfl))
  f260 := Tryz.func147.trans (congrArg some (by kernel_rfl))
  f278 := Tryz.func170.trans (congrArg some (by kernel_rfl))
  f289 := Tryz.func77.trans (congrArg some (by kernel_rfl))
  f323 := Tryz.func110.trans (congrArg some (by kernel_rfl))
  f339 := Tryz.func148.trans (congrArg some (by kernel_rfl))
  f340 := Tryz.func149.trans (congrArg some (by kernel_rfl))
  f345 := Tryz.func168.trans (congrArg some (by kernel_rfl))
  f346 := Tryz.func169.trans (congrArg some (by kernel_rfl))
  t0 := Tryz.underlying0
  a0 := Tryz.isAgg0
  z0 := Tryz.sizeOf0
  v0 := Tryz.zeroValue0
  t3 := Tryz.underlying3
  a3 := Tryz.isAgg3
  z3 := Tryz.sizeOf3
  v3 := Tryz.zeroValue3
  t4 := Tryz.underlying4
  a4 := Tryz.isAgg4
  z4 := Tryz.sizeOf4
  v4 := Tryz.zeroValue4
  t5 := Tryz.underlying5
  a5 := Tryz.isAgg5
  z5 := Tryz.sizeOf5
  v5 := Tryz.zeroValue5
  t9 := Tryz.underlying9
  a9 := Tryz.isAgg9
  z9 := Tryz.sizeOf9
  v9 := Tryz.zeroValue9
  t21 := Tryz.underlying21
  a21 := Tryz.isAgg21
  z21 := Tryz.sizeOf21
  v21 := Tryz.zeroValue21
  t37 := Tryz.underlying102
  a37 := Tryz.isAgg102
  z37 := Tryz.sizeOf102
  v37 := Tryz.zeroValue102
  t46 := Tryz.underlying132
  a46 := Tryz.isAgg132
  z46 := Tryz.sizeOf132
  v46 := Tryz.zeroValue132
  t49 := Tryz.underlying227
  a49 := Tryz.isAgg227
  z49 := Tryz.sizeOf227
  v49 := Tryz.zeroValue227
  t51 := Tryz.underlying162
  a51 := Tryz.isAgg162
  z51 := Tryz.sizeOf162
  v51 := Tryz.zeroValue162
  t105 := Tryz.underlying164
  a105 := Tryz.isAgg164
  z105 := Tryz.sizeOf164
  v105 := Tryz.zeroValue164
  t119 := Tryz.underlying223
  a119 := Tryz.isAgg223
  z119 := Tryz.sizeOf223
  t131 := Tryz.underlying159
  a131 := Tryz.isAgg159
  z131 := Tryz.sizeOf159
  v131 := Tryz.zeroValue159
  t138 := Tryz.underlying225
  a138 := Tryz.isAgg225
  z138 := Tryz.sizeOf225
  v138 := Tryz.zeroValue225
  t139 := Tryz.underlying226
  a139 := Tryz.isAgg226
  z139 := Tryz.sizeOf226
  v139 := Tryz.zeroValue226
  t234 := Tryz.underlying228
  a234 := Tryz.isAgg228
  z234 := Tryz.sizeOf228
  v234 := Tryz.zeroValue228
  t236 := Tryz.underlying230
  a236 := Tryz.isAgg230
  z236 := Tryz.sizeOf230
  v236 := Tryz.zeroValue230
  g3 := by kernel_rfl
  g4 := by kernel_rfl
  g20 := by kernel_rfl
  g21 := by kernel_rfl
  g22 := by kernel_rfl
  g23 := by kernel_rfl
  g24 := by kernel_rfl }
open Go.RowKit in
/-- **strconv.Quote AT EVERY STRING, VALID UTF-8 OR NOT** (of at most some 2^43 bytes: ten bytes may come of one): 'strOfNums (Lib.quoteZ T s)': Derived/Lib/QuoteLoop.lean: a row of Lean a statement of Go. Of what was there nothing has turned. (LAID: no walk: one application.) -/
theorem Tryz.strconv_Quote (T : Lib.PrintTabs) (s : ByteArray) (w : World) (hlen : 10 * s.size + 12 ≤ 140737488355328) (hT : Lib.PrintTabsAt 7 8 9 10 T w) (hU : Lib.Utf8Tabs 5 6 w) :
    Calls Tryz.prog 25 #[.string s] w fun e w' => e = .returned (.string (strOfNums (Lib.quoteZ T s))) ∧ Below w.heap.size w w' := Any.strconv_Quote Tryz.lays177 (by kernel_rfl) T s w hlen hT hU
def Tryz.lays129_ren : Go.Shelf.Ren := ⟨fun | 129 => 108 | n => n, fun | 53 => 38 | 3 => 3 | 4 => 4 | 46 => 132 | 5 => 5 | 9 => 9 | n => n, fun | n => n⟩
theorem Tryz.lays129 : Go.Proofs.Lays.n129 Tryz.prog Tryz.lays129_ren := {
  mixed := by kernel_rfl
  f129 := Tryz.func108.trans (congrArg some (by kernel_rfl))
  t3 := Tryz.underlying3
  a3 := Tryz.isAgg3
  z3 := Tryz.sizeOf3
  v3 := Tryz.zeroValue3
  t4 := Tryz.underlying4
  a4 := Tryz.isAgg4
  z4 := Tryz.sizeOf4
  v4 := Tryz.zeroValue4
  t5 := Tryz.underlying5
  a5 := Tryz.isAgg5
  z5 := Tryz.sizeOf5
  v5 := Tryz.zeroValue5
  t9 := Tryz.underlying9
  a9 := Tryz.isAgg9
  z9 := Tryz.sizeOf9
  v9 := Tryz.zeroValue9
  t46 := Tryz.underlying132
  a46 := Tryz.isAgg132
  z46 := Tryz.sizeOf132
  v46 := Tryz.zeroValue132
  t53 := Tryz.underlying38
  a53 := Tryz.isAgg38
  z53 := Tryz.sizeOf38
  v53 := Tryz.zeroValue38 }
/-- bits.Len64: "Len64 returns the minimum number of bits required to represent x; the result is 0 for x == 0.": IT RETURNS 'Lib.bitLen x'; the world is as it was. ('h0', 'h1': x is a uint64.) (LAID: no walk: one application.) -/
theorem Tryz.bits_Len64 (x : Int) (w : World) (h0 : 0 ≤ x) (h1 : x ≤ 18446744073709551615) :
    Calls Tryz.prog 108 #[.int .u64 x] w fun e w' => e = .returned (.int .i64 (Lib.bitLen x.toNat)) ∧ w' = w := Any.bits_Len64 Tryz.lays129 x w h0 h1
def Tryz.lays317_ren : Go.Shelf.Ren := ⟨fun | 317 => 152 | n => n, fun | 3 => 3 | 46 => 132 | n => n, fun | n => n⟩
theorem Tryz.lays317 : Go.Proofs.Lays.n317 Tryz.prog Tryz.lays317_ren := {
  mixed := by kernel_rfl
  f317 := Tryz.func152.trans (congrArg some (by kernel_rfl))
  t3 := Tryz.underlying3
  a3 := Tryz.isAgg3
  z3 := Tryz.sizeOf3
  v3 := Tryz.zeroValue3
  t46 := Tryz.underlying132
  a46 := Tryz.isAgg132
  z46 := Tryz.sizeOf132
  v46 := Tryz.zeroValue132 }
open Go.Lib in
/-- internal/strconv.log10Pow2: "log10Pow2(x) returns ⌊log₁₀ 2**x⌋ = ⌊x * log₁₀ 2⌋.": '(x * 78913) >> 18', at an x up to 64 (a length in bits). The world is as it was. (LAID: no walk: one application.) -/
theorem Tryz.internal_strconv_log10Pow2 (x : Nat) (h : x ≤ 64) (w : World) :
    Calls Tryz.prog 152 #[.int .i64 x] w fun e w' => e = .returned (.int .i64 (Lib.l10 x)) ∧ w' = w := Any.internal_strconv_log10Pow2 Tryz.lays317 x h w
def Tryz.lays318_ren : Go.Shelf.Ren := ⟨fun | 318 => 153 | n => n, fun | 3 => 3 | 4 => 4 | n => n, fun | n => n⟩
theorem Tryz.lays318 : Go.Proofs.Lays.n318 Tryz.prog Tryz.lays318_ren := {
  mixed := by kernel_rfl
  f318 := Tryz.func153.trans (congrArg some (by kernel_rfl))
  t3 := Tryz.underlying3
  a3 := Tryz.isAgg3
  z3 := Tryz.sizeOf3
  v3 := Tryz.zeroValue3
  t4 := Tryz.underlying4
  a4 := Tryz.isAgg4
  z4 := Tryz.sizeOf4
  v4 := Tryz.zeroValue4 }
open Go.Lib in
/-- internal/strconv.bool2: "bool2 converts b to an integer: 1 for true, 0 for false." The world is as it was. (LAID: no walk: one application.) -/
theorem Tryz.internal_strconv_bool2_int (b : Bool) (w : World) :
    Calls Tryz.prog 153 #[.bool b] w fun e w' => e = .returned (.int .i64 (if b then 1 else 0)) ∧ w' = w := Any.internal_strconv_bool2_int Tryz.lays318 b w
def Tryz.lays283_ren : Go.Shelf.Ren := ⟨fun | 283 => 113 | n => n, fun | 3 => 3 | 9 => 9 | 4 => 4 | n => n, fun | n => n⟩
theorem Tryz.lays283 : Go.Proofs.Lays.n283 Tryz.prog Tryz.lays283_ren := {
  mixed := by kernel_rfl
  f283 := Tryz.func113.trans (congrArg some (by kernel_rfl))
  t3 := Tryz.underlying3
  a3 := Tryz.isAgg3
  z3 := Tryz.sizeOf3
  v3 := Tryz.zeroValue3
  t4 := Tryz.underlying4
  a4 := Tryz.isAgg4
  z4 := Tryz.sizeOf4
  v4 := Tryz.zeroValue4
  t9 := Tryz.underlying9
  a9 := Tryz.isAgg9
  z9 := Tryz.sizeOf9
  v9 := Tryz.zeroValue9 }
open Go.Lib in
/-- internal/strconv.small: "small returns the string for an i with 0 <= i < nSmalls.": i's decimal numeral. The world is as it was. (LAID: no walk: one application.) -/
theorem Tryz.internal_strconv_small (i : Nat) (h : i < 100) (w : World) :
    Calls Tryz.prog 113 #[.int .i64 i] w fun e w' => e = .returned (.string ⟨(Lib.decDigits i).toArray⟩) ∧ w' = w := Any.internal_strconv_small Tryz.lays283 i h w
def Tryz.laysM284_ren : Go.Shelf.Ren := ⟨fun | 284 => 114 | 129 => 108 | 317 => 152 | 318 => 153 | n => n, fun | 53 => 38 | 3 => 3 | 212 => 208 | 0 => 0 | 4 => 4 | 46 => 132 | 5 => 5 | 9 => 9 | n => n, fun | 17 => 2 | n => n⟩
theorem Tryz.laysM284 : Go.Proofs.LaysM.n284 Tryz.prog Tryz.laysM284_ren := {
  mixed := by kernel_rfl
  f129 := Tryz.func108.trans (congrArg some (by kernel_rfl))
  f284 := Tryz.func114.trans (congrArg some (by kernel_rfl))
  f317 := Tryz.func152.trans (congrArg some (by kernel_rfl))
  f318 := Tryz.func153.trans (congrArg some (by kernel_rfl))
  t0 := Tryz.underlying0
  a0 := Tryz.isAgg0
  z0 := Tryz.sizeOf0
  v0 := Tryz.zeroValue0
  t3 := Tryz.underlying3
  a3 := Tryz.isAgg3
  z3 := Tryz.sizeOf3
  v3 := Tryz.zeroValue3
  t4 := Tryz.underlying4
  a4 := Tryz.isAgg4
  z4 := Tryz.sizeOf4
  v4 := Tryz.zeroValue4
  t5 := Tryz.underlying5
  a5 := Tryz.isAgg5
  z5 := Tryz.sizeOf5
  v5 := Tryz.zeroValue5
  t9 := Tryz.underlying9
  a9 := Tryz.isAgg9
  z9 := Tryz.sizeOf9
  v9 := Tryz.zeroValue9
  t46 := Tryz.underlying132
  a46 := Tryz.isAgg132
  z46 := Tryz.sizeOf132
  v46 := Tryz.zeroValue132
  t53 := Tryz.underlying38
  a53 := Tryz.isAgg38
  z53 := Tryz.sizeOf38
  v53 := Tryz.zeroValue38
  t212 := Tryz.underlying208
  a212 := Tryz.isAgg208
  z212 := Tryz.sizeOf208
  v212 := Tryz.zeroValue208
  g17 := by kernel_rfl
  i0 := by kernel_rfl
  i3 := by kernel_rfl
  i4 := by kernel_rfl
  i5 := by kernel_rfl
  i9 := by kernel_rfl
  i46 := by kernel_rfl
  i53 := by kernel_rfl
  i212 := by kernel_rfl
  m17 := by kernel_rfl }
open Go.Lib in
/-- internal/strconv.numDigits, at a d that is not 0: THE NUMBER OF d's DECIMAL DIGITS. The world is as it was. (LAID: no walk: one application.) -/
theorem Tryz.internal_strconv_numDigits (u : Nat) (h1 : 1 ≤ u) (h2 : u < 18446744073709551616) (w : World) (htab : Lib.TabIs Tryz.prog w "internal/strconv.uint64pow10" .u64 Lib.pow10Tab) :
    Calls Tryz.prog 114 #[.int .u64 u] w fun e w' => e = .returned (.int .i64 (Lib.nDigits u)) ∧ w' = w := Any.internal_strconv_numDigits Tryz.laysM284 u h1 h2 w htab
def Tryz.lays285_ren : Go.Shelf.Ren := ⟨fun | 285 => 115 | n => n, fun | 37 => 102 | 53 => 38 | 3 => 3 | 4 => 4 | 51 => 162 | 9 => 9 | 5 => 5 | 0 => 0 | n => n, fun | n => n⟩
theorem Tryz.lays285 : Go.Proofs.Lays.n285 Tryz.prog Tryz.lays285_ren := {
  mixed := by kernel_rfl
  f285 := Tryz.func115.trans (congrArg some (by kernel_rfl))
  t0 := Tryz.underlying0
  a0 := Tryz.isAgg0
  z0 := Tryz.sizeOf0
  v0 := Tryz.zeroValue0
  t3 := Tryz.underlying3
  a3 := Tryz.isAgg3
  z3 := Tryz.sizeOf3
  v3 := Tryz.zeroValue3
  t4 := Tryz.underlying4
  a4 := Tryz.isAgg4
  z4 := Tryz.sizeOf4
  v4 := Tryz.zeroValue4
  t5 := Tryz.underlying5
  a5 := Tryz.isAgg5
  z5 := Tryz.sizeOf5
  v5 := Tryz.zeroValue5
  t9 := Tryz.underlying9
  a9 := Tryz.isAgg9
  z9 := Tryz.sizeOf9
  v9 := Tryz.zeroValue9
  t37 := Tryz.underlying102
  a37 := Tryz.isAgg102
  z37 := Tryz.sizeOf102
  v37 := Tryz.zeroValue102
  t51 := Tryz.underlying162
  a51 := Tryz.isAgg162
  z51 := Tryz.sizeOf162
  v51 := Tryz.zeroValue162
  t53 := Tryz.underlying38
  a53 := Tryz.isAgg38
  z53 := Tryz.sizeOf38
  v53 := Tryz.zeroValue38 }
open Go.RowKit Go.Sort Go.Lib in
/-- internal/strconv.formatBase10: "formatBase10 formats the decimal representation of u into a. The caller is responsible for ensuring that a is big enough to hold u. If a is too big, leading zeros will be filled in as needed.": THE ROW HOLDS u's DIGITS ('FmtInv .. 0 ..': every place t holds 'dg u (len - 1 - t)'); all else is as it was but for the count of draws. (LAID: no walk: one application.) -/
theorem Tryz.internal_strconv_formatBase10 (blk off cap : Nat) (u : Nat) (d : Array UInt8) (w : World) (hH : Holds (fun (b : UInt8) => Value.int .u8 (b.toNat : Int)) w blk off d) (hu : u < 10 ^ d.size) (hu64 : u < 18446744073709551616) (hsz : d.size < 4611686018427387904) :
    Calls Tryz.prog 115 #[.slice (some ⟨blk, off, none⟩) d.size cap, .int .u64 u] w fun e w' =>
      e = .returned (.tuple #[]) ∧ ∃ (n v' : Nat) (dk : Array UInt8), w' = (putRow (fun (b : UInt8) => Value.int .u8 (b.toNat : Int)) w blk off dk).drewN n ∧ FmtInv d.size u 0 v' dk := Any.internal_strconv_formatBase10 Tryz.lays285 blk off cap u d w hH hu hu64 hsz
def Tryz.laysM246_ren : Go.Shelf.Ren := ⟨fun | 246 => 80 | 283 => 113 | 284 => 114 | 285 => 115 | 286 => 116 | 129 => 108 | 317 => 152 | 318 => 153 | 319 => 154 | 320 => 155 | 337 => 171 | 338 => 172 | n => n, fun | 2 => 2 | 3 => 3 | 9 => 9 | 4 => 4 | 171 => 171 | 0 => 0 | 53 => 38 | 37 => 102 | 5 => 5 | 173 => 173 | 212 => 208 | 51 => 162 | 20 => 20 | 213 => 209 | 46 => 132 | 232 => 244 | 233 => 245 | n => n, fun | 17 => 2 | 18 => 12 | 19 => 13 | n => n⟩
theorem Tryz.laysM246 : Go.Proofs.LaysM.n246 Tryz.prog Tryz.laysM246_ren := {
  mixed := by kernel_rfl
  f129 := Tryz.func108.trans (congrArg some (by kernel_rfl))
  f246 := Tryz.func80.trans (congrArg some (by kernel_rfl))
  f283 := Tryz.func113.trans (congrArg some (by kernel_rfl))
  f284 := Tryz.func114.trans (congrArg some (by kernel_rfl))
  f285 := Tryz.func115.trans (congrArg some (by kernel_rfl))
  f286 := Tryz.func116.trans (congrArg some (by kernel_rfl))
  f317 := Tryz.func152.trans (congrArg some (by kernel_rfl))
  f318 := Tryz.func153.trans (congrArg some (by kernel_rfl))
  f319 := Tryz.func154.trans (congrArg some (by kernel_rfl))
  f320 := Tryz.func155.trans (congrArg some (by kernel_rfl))
  f337 := Tryz.func171.trans (congrArg some (by kernel_rfl))
  f338 := Tryz.func172.trans (congrArg some (by kernel_rfl))
  t0 := Tryz.underlying0
  a0 := Tryz.isAgg0
  z0 := Tryz.sizeOf0
  v0 := Tryz.zeroValue0
  t2 := Tryz.underlying2
  a2 := Tryz.isAgg2
  z2 := Tryz.sizeOf2
  v2 := Tryz.zeroValue2
  t3 := Tryz.underlying3
  a3 := Tryz.isAgg3
  z3 := Tryz.sizeOf3
  v3 := Tryz.zeroValue3
  t4 := Tryz.underlying4
  a4 := Tryz.isAgg4
  z4 := Tryz.sizeOf4
  v4 := Tryz.zeroValue4
  t5 := Tryz.underlying5
  a5 := Tryz.isAgg5
  z5 := Tryz.sizeOf5
  v5 := Tryz.zeroValue5
  t9 := Tryz.underlying9
  a9 := Tryz.isAgg9
  z9 := Tryz.sizeOf9
  v9 := Tryz.zeroValue9
  t20 := Tryz.underlying20
  a20 := Tryz.isAgg20
  z20 := Tryz.sizeOf20
  v20 := Tryz.zeroValue20
  t37 := Tryz.underlying102
  a37 := Tryz.isAgg102
  z37 := Tryz.sizeOf102
  v37 := Tryz.zeroValue102
  t46 := Tryz.underlying132
  a46 := Tryz.isAgg132
  z46 := Tryz.sizeOf132
  v46 := Tryz.zeroValue132
  t51 := Tryz.underlying162
  a51 := Tryz.isAgg162
  z51 := Tryz.sizeOf162
  v51 := Tryz.zeroValue162
  t53 := Tryz.underlying38
  a53 := Tryz.isAgg38
  z53 := Tryz.sizeOf38
  v53 := Tryz.zeroValue38
  t171 := Tryz.underlying171
  a171 := Tryz.isAgg171
  z171 := Tryz.sizeOf171
  v171 := Tryz.zeroValue171
  t173 := Tryz.underlying173
  a173 := Tryz.isAgg173
  z173 := Tryz.sizeOf173
  v173 := Tryz.zeroValue173
  t212 := Tryz.underlying208
  a212 := Tryz.isAgg208
  z212 := Tryz.sizeOf208
  v212 := Tryz.zeroValue208
  t213 := Tryz.underlying209
  a213 := Tryz.isAgg209
  z213 := Tryz.sizeOf209
  t232 := Tryz.underlying244
  a232 := Tryz.isAgg244
  z232 := Tryz.sizeOf244
  v232 := Tryz.zeroValue244
  t233 := Tryz.underlying245
  a233 := Tryz.isAgg245
  z233 := Tryz.sizeOf245
  v233 := Tryz.zeroValue245
  g17 := by kernel_rfl
  g18 := by kernel_rfl
  g19 := by kernel_rfl
  i0 := by kernel_rfl
  i2 := by kernel_rfl
  i3 := by kernel_rfl
  i4 := by kernel_rfl
  i5 := by kernel_rfl
  i9 := by kernel_rfl
  i20 := by kernel_rfl
  i37 := by kernel_rfl
  i46 := by kernel_rfl
  i51 := by kernel_rfl
  i53 := by kernel_rfl
  i171 := by kernel_rfl
  i173 := by kernel_rfl
  i212 := by kernel_rfl
  i232 := by kernel_rfl
  i233 := by kernel_rfl
  m17 := by kernel_rfl
  m18 := by kernel_rfl
  m19 := by kernel_rfl }
open Go.RowKit Go.Sort Go.Lib in
/-- internal/strconv.FormatInt: "FormatInt returns the string representation of i in the given base": AT BASE 10: i's decimal numeral, for every int64. The world behind the call: the world before it, new blocks behind the heap, draws. (LAID: no walk: one application.) -/
theorem Tryz.internal_strconv_FormatInt_10 (n : Int) (h0 : -9223372036854775808 ≤ n) (h1 : n ≤ 9223372036854775807) (w : World) (htab : Lib.TabIs Tryz.prog w "internal/strconv.uint64pow10" .u64 Lib.pow10Tab) :
    Calls Tryz.prog 80 #[.int .i64 n, .int .i64 10] w fun e w' => e = .returned (.string ⟨(Lib.itoa n).toArray⟩) ∧ ∃ k os, w' = grow (w.drewN k) os := Any.internal_strconv_FormatInt_10 Tryz.laysM246 n h0 h1 w htab
def Tryz.lays246_ren : Go.Shelf.Ren := ⟨fun | 246 => 80 | 283 => 113 | 284 => 114 | 285 => 115 | 286 => 116 | 129 => 108 | 317 => 152 | 318 => 153 | 319 => 154 | 320 => 155 | 337 => 171 | 338 => 172 | n => n, fun | 2 => 2 | 3 => 3 | 9 => 9 | 4 => 4 | 171 => 171 | 0 => 0 | 53 => 38 | 37 => 102 | 5 => 5 | 173 => 173 | 212 => 208 | 51 => 162 | 20 => 20 | 213 => 209 | 46 => 132 | 232 => 244 | 233 => 245 | n => n, fun | 17 => 2 | 18 => 12 | 19 => 13 | n => n⟩
theorem Tryz.lays246 : Go.Proofs.Lays.n246 Tryz.prog Tryz.lays246_ren := {
  mixed := by kernel_rfl
  f129 := Tryz.func108.trans (congrArg some (by kernel_rfl))
  f246 := Tryz.func80.trans (congrArg some (by kernel_rfl))
  f283 := Tryz.func113.trans (congrArg some (by kernel_rfl))
  f284 := Tryz.func114.trans (congrArg some (by kernel_rfl))
  f285 := Tryz.func115.trans (congrArg some (by kernel_rfl))
  f286 := Tryz.func116.trans (congrArg some (by kernel_rfl))
  f317 := Tryz.func152.trans (congrArg some (by kernel_rfl))
  f318 := Tryz.func153.trans (congrArg some (by kernel_rfl))
  f319 := Tryz.func154.trans (congrArg some (by kernel_rfl))
  f320 := Tryz.func155.trans (congrArg some (by kernel_rfl))
  f337 := Tryz.func171.trans (congrArg some (by kernel_rfl))
  f338 := Tryz.func172.trans (congrArg some (by kernel_rfl))
  t0 := Tryz.underlying0
  a0 := Tryz.isAgg0
  z0 := Tryz.sizeOf0
  v0 := Tryz.zeroValue0
  t2 := Tryz.underlying2
  a2 := Tryz.isAgg2
  z2 := Tryz.sizeOf2
  v2 := Tryz.zeroValue2
  t3 := Tryz.underlying3
  a3 := Tryz.isAgg3
  z3 := Tryz.sizeOf3
  v3 := Tryz.zeroValue3
  t4 := Tryz.underlying4
  a4 := Tryz.isAgg4
  z4 := Tryz.sizeOf4
  v4 := Tryz.zeroValue4
  t5 := Tryz.underlying5
  a5 := Tryz.isAgg5
  z5 := Tryz.sizeOf5
  v5 := Tryz.zeroValue5
  t9 := Tryz.underlying9
  a9 := Tryz.isAgg9
  z9 := Tryz.sizeOf9
  v9 := Tryz.zeroValue9
  t20 := Tryz.underlying20
  a20 := Tryz.isAgg20
  z20 := Tryz.sizeOf20
  v20 := Tryz.zeroValue20
  t37 := Tryz.underlying102
  a37 := Tryz.isAgg102
  z37 := Tryz.sizeOf102
  v37 := Tryz.zeroValue102
  t46 := Tryz.underlying132
  a46 := Tryz.isAgg132
  z46 := Tryz.sizeOf132
  v46 := Tryz.zeroValue132
  t51 := Tryz.underlying162
  a51 := Tryz.isAgg162
  z51 := Tryz.sizeOf162
  v51 := Tryz.zeroValue162
  t53 := Tryz.underlying38
  a53 := Tryz.isAgg38
  z53 := Tryz.sizeOf38
  v53 := Tryz.zeroValue38
  t171 := Tryz.underlying171
  a171 := Tryz.isAgg171
  z171 := Tryz.sizeOf171
  v171 := Tryz.zeroValue171
  t173 := Tryz.underlying173
  a173 := Tryz.isAgg173
  z173 := Tryz.sizeOf173
  v173 := Tryz.zeroValue173
  t212 := Tryz.underlying208
  a212 := Tryz.isAgg208
  z212 := Tryz.sizeOf208
  v212 := Tryz.zeroValue208
  t213 := Tryz.underlying209
  a213 := Tryz.isAgg209
  z213 := Tryz.sizeOf209
  t232 := Tryz.underlying244
  a232 := Tryz.isAgg244
  z232 := Tryz.sizeOf244
  v232 := Tryz.zeroValue244
  t233 := Tryz.underlying245
  a233 := Tryz.isAgg245
  z233 := Tryz.sizeOf245
  v233 := Tryz.zeroValue245
  g17 := by kernel_rfl
  g18 := by kernel_rfl
  g19 := by kernel_rfl }
open Go.RowKit Go.Sort Go.Lib in
/-- THE ROAD WITHOUT THE TABLE: 0 <= i < 100: two constants are read, nothing is laid: no premise on the world, and the world is as it was. (LAID: no walk: one application.) -/
theorem Tryz.internal_strconv_FormatInt_10_small (i : Nat) (hi : i < 100) (w : World) :
    Calls Tryz.prog 80 #[.int .i64 i, .int .i64 10] w fun e w' => e = .returned (.string ⟨(Lib.decDigits i).toArray⟩) ∧ w' = w := Any.internal_strconv_FormatInt_10_small Tryz.lays246 i hi w
def Tryz.laysM243_ren : Go.Shelf.Ren := ⟨fun | 243 => 189 | 246 => 80 | 283 => 113 | 284 => 114 | 285 => 115 | 286 => 116 | 129 => 108 | 317 => 152 | 318 => 153 | 319 => 154 | 320 => 155 | 337 => 171 | 338 => 172 | n => n, fun | 3 => 3 | 9 => 9 | 2 => 2 | 4 => 4 | 171 => 171 | 0 => 0 | 53 => 38 | 37 => 102 | 5 => 5 | 173 => 173 | 212 => 208 | 51 => 162 | 20 => 20 | 213 => 209 | 46 => 132 | 232 => 244 | 233 => 245 | n => n, fun | 17 => 2 | 18 => 12 | 19 => 13 | n => n⟩
theorem Tryz.laysM243 : Go.Proofs.LaysM.n243 Tryz.prog Tryz.laysM243_ren := {
  mixed := by kernel_rfl
  f129 := Tryz.func108.trans (congrArg some (by kernel_rfl))
  f243 := Tryz.func189.trans (congrArg some (by kernel_rfl))
  f246 := Tryz.func80.trans (congrArg some (by kernel_rfl))
  f283 := Tryz.func113.trans (congrArg some (by kernel_rfl))
  f284 := Tryz.func114.trans (congrArg some (by kernel_rfl))
  f285 := Tryz.func115.trans (congrArg some (by kernel_rfl))
  f286 := Tryz.func116.trans (congrArg some (by kernel_rfl))
  f317 := Tryz.func152.trans (congrArg some (by kernel_rfl))
  f318 := Tryz.func153.trans (congrArg some (by kernel_rfl))
  f319 := Tryz.func154.trans (congrArg some (by kernel_rfl))
  f320 := Tryz.func155.trans (congrArg some (by kernel_rfl))
  f337 := Tryz.func171.trans (congrArg some (by kernel_rfl))
  f338 := Tryz.func172.trans (congrArg some (by kernel_rfl))
  t0 := Tryz.underlying0
  a0 := Tryz.isAgg0
  z0 := Tryz.sizeOf0
  v0 := Tryz.zeroValue0
  t2 := Tryz.underlying2
  a2 := Tryz.isAgg2
  z2 := Tryz.sizeOf2
  v2 := Tryz.zeroValue2
  t3 := Tryz.underlying3
  a3 := Tryz.isAgg3
  z3 := Tryz.sizeOf3
  v3 := Tryz.zeroValue3
  t4 := Tryz.underlying4
  a4 := Tryz.isAgg4
  z4 := Tryz.sizeOf4
  v4 := Tryz.zeroValue4
  t5 := Tryz.underlying5
  a5 := Tryz.isAgg5
  z5 := Tryz.sizeOf5
  v5 := Tryz.zeroValue5
  t9 := Tryz.underlying9
  a9 := Tryz.isAgg9
  z9 := Tryz.sizeOf9
  v9 := Tryz.zeroValue9
  t20 := Tryz.underlying20
  a20 := Tryz.isAgg20
  z20 := Tryz.sizeOf20
  v20 := Tryz.zeroValue20
  t37 := Tryz.underlying102
  a37 := Tryz.isAgg102
  z37 := Tryz.sizeOf102
  v37 := Tryz.zeroValue102
  t46 := Tryz.underlying132
  a46 := Tryz.isAgg132
  z46 := Tryz.sizeOf132
  v46 := Tryz.zeroValue132
  t51 := Tryz.underlying162
  a51 := Tryz.isAgg162
  z51 := Tryz.sizeOf162
  v51 := Tryz.zeroValue162
  t53 := Tryz.underlying38
  a53 := Tryz.isAgg38
  z53 := Tryz.sizeOf38
  v53 := Tryz.zeroValue38
  t171 := Tryz.underlying171
  a171 := Tryz.isAgg171
  z171 := Tryz.sizeOf171
  v171 := Tryz.zeroValue171
  t173 := Tryz.underlying173
  a173 := Tryz.isAgg173
  z173 := Tryz.sizeOf173
  v173 := Tryz.zeroValue173
  t212 := Tryz.underlying208
  a212 := Tryz.isAgg208
  z212 := Tryz.sizeOf208
  v212 := Tryz.zeroValue208
  t213 := Tryz.underlying209
  a213 := Tryz.isAgg209
  z213 := Tryz.sizeOf209
  t232 := Tryz.underlying244
  a232 := Tryz.isAgg244
  z232 := Tryz.sizeOf244
  v232 := Tryz.zeroValue244
  t233 := Tryz.underlying245
  a233 := Tryz.isAgg245
  z233 := Tryz.sizeOf245
  v233 := Tryz.zeroValue245
  g17 := by kernel_rfl
  g18 := by kernel_rfl
  g19 := by kernel_rfl
  i0 := by kernel_rfl
  i2 := by kernel_rfl
  i3 := by kernel_rfl
  i4 := by kernel_rfl
  i5 := by kernel_rfl
  i9 := by kernel_rfl
  i20 := by kernel_rfl
  i37 := by kernel_rfl
  i46 := by kernel_rfl
  i51 := by kernel_rfl
  i53 := by kernel_rfl
  i171 := by kernel_rfl
  i173 := by kernel_rfl
  i212 := by kernel_rfl
  i232 := by kernel_rfl
  i233 := by kernel_rfl
  m17 := by kernel_rfl
  m18 := by kernel_rfl
  m19 := by kernel_rfl }
open Go.RowKit Go.Sort Go.Lib in
/-- internal/strconv.Itoa: "Itoa is equivalent to FormatInt(int64(i), 10).": i's decimal numeral, for every int. (LAID: no walk: one application.) -/
theorem Tryz.internal_strconv_Itoa (n : Int) (h0 : -9223372036854775808 ≤ n) (h1 : n ≤ 9223372036854775807) (w : World) (htab : Lib.TabIs Tryz.prog w "internal/strconv.uint64pow10" .u64 Lib.pow10Tab) :
    Calls Tryz.prog 189 #[.int .i64 n] w fun e w' => e = .returned (.string ⟨(Lib.itoa n).toArray⟩) ∧ ∃ k os, w' = grow (w.drewN k) os := Any.internal_strconv_Itoa Tryz.laysM243 n h0 h1 w htab
def Tryz.lays243_ren : Go.Shelf.Ren := ⟨fun | 243 => 189 | 246 => 80 | 283 => 113 | 284 => 114 | 285 => 115 | 286 => 116 | 129 => 108 | 317 => 152 | 318 => 153 | 319 => 154 | 320 => 155 | 337 => 171 | 338 => 172 | n => n, fun | 3 => 3 | 9 => 9 | 2 => 2 | 4 => 4 | 171 => 171 | 0 => 0 | 53 => 38 | 37 => 102 | 5 => 5 | 173 => 173 | 212 => 208 | 51 => 162 | 20 => 20 | 213 => 209 | 46 => 132 | 232 => 244 | 233 => 245 | n => n, fun | 17 => 2 | 18 => 12 | 19 => 13 | n => n⟩
theorem Tryz.lays243 : Go.Proofs.Lays.n243 Tryz.prog Tryz.lays243_ren := {
  mixed := by kernel_rfl
  f129 := Tryz.func108.trans (congrArg some (by kernel_rfl))
  f243 := Tryz.func189.trans (congrArg some (by kernel_rfl))
  f246 := Tryz.func80.trans (congrArg some (by kernel_rfl))
  f283 := Tryz.func113.trans (congrArg some (by kernel_rfl))
  f284 := Tryz.func114.trans (congrArg some (by kernel_rfl))
  f285 := Tryz.func115.trans (congrArg some (by kernel_rfl))
  f286 := Tryz.func116.trans (congrArg some (by kernel_rfl))
  f317 := Tryz.func152.trans (congrArg some (by kernel_rfl))
  f318 := Tryz.func153.trans (congrArg some (by kernel_rfl))
  f319 := Tryz.func154.trans (congrArg some (by kernel_rfl))
  f320 := Tryz.func155.trans (congrArg some (by kernel_rfl))
  f337 := Tryz.func171.trans (congrArg some (by kernel_rfl))
  f338 := Tryz.func172.trans (congrArg some (by kernel_rfl))
  t0 := Tryz.underlying0
  a0 := Tryz.isAgg0
  z0 := Tryz.sizeOf0
  v0 := Tryz.zeroValue0
  t2 := Tryz.underlying2
  a2 := Tryz.isAgg2
  z2 := Tryz.sizeOf2
  v2 := Tryz.zeroValue2
  t3 := Tryz.underlying3
  a3 := Tryz.isAgg3
  z3 := Tryz.sizeOf3
  v3 := Tryz.zeroValue3
  t4 := Tryz.underlying4
  a4 := Tryz.isAgg4
  z4 := Tryz.sizeOf4
  v4 := Tryz.zeroValue4
  t5 := Tryz.underlying5
  a5 := Tryz.isAgg5
  z5 := Tryz.sizeOf5
  v5 := Tryz.zeroValue5
  t9 := Tryz.underlying9
  a9 := Tryz.isAgg9
  z9 := Tryz.sizeOf9
  v9 := Tryz.zeroValue9
  t20 := Tryz.underlying20
  a20 := Tryz.isAgg20
  z20 := Tryz.sizeOf20
  v20 := Tryz.zeroValue20
  t37 := Tryz.underlying102
  a37 := Tryz.isAgg102
  z37 := Tryz.sizeOf102
  v37 := Tryz.zeroValue102
  t46 := Tryz.underlying132
  a46 := Tryz.isAgg132
  z46 := Tryz.sizeOf132
  v46 := Tryz.zeroValue132
  t51 := Tryz.underlying162
  a51 := Tryz.isAgg162
  z51 := Tryz.sizeOf162
  v51 := Tryz.zeroValue162
  t53 := Tryz.underlying38
  a53 := Tryz.isAgg38
  z53 := Tryz.sizeOf38
  v53 := Tryz.zeroValue38
  t171 := Tryz.underlying171
  a171 := Tryz.isAgg171
  z171 := Tryz.sizeOf171
  v171 := Tryz.zeroValue171
  t173 := Tryz.underlying173
  a173 := Tryz.isAgg173
  z173 := Tryz.sizeOf173
  v173 := Tryz.zeroValue173
  t212 := Tryz.underlying208
  a212 := Tryz.isAgg208
  z212 := Tryz.sizeOf208
  v212 := Tryz.zeroValue208
  t213 := Tryz.underlying209
  a213 := Tryz.isAgg209
  z213 := Tryz.sizeOf209
  t232 := Tryz.underlying244
  a232 := Tryz.isAgg244
  z232 := Tryz.sizeOf244
  v232 := Tryz.zeroValue244
  t233 := Tryz.underlying245
  a233 := Tryz.isAgg245
  z233 := Tryz.sizeOf245
  v233 := Tryz.zeroValue245
  g17 := by kernel_rfl
  g18 := by kernel_rfl
  g19 := by kernel_rfl }
open Go.RowKit Go.Sort Go.Lib in
/-- THE ROAD WITHOUT THE TABLE: 0 <= i < 100. (LAID: no walk: one application.) -/
theorem Tryz.internal_strconv_Itoa_small (i : Nat) (hi : i < 100) (w : World) :
    Calls Tryz.prog 189 #[.int .i64 i] w fun e w' => e = .returned (.string ⟨(Lib.decDigits i).toArray⟩) ∧ w' = w := Any.internal_strconv_Itoa_small Tryz.lays243 i hi w
def Tryz.laysM171_ren : Go.Shelf.Ren := ⟨fun | 171 => 166 | 243 => 189 | 246 => 80 | 283 => 113 | 284 => 114 | 285 => 115 | 286 => 116 | 129 => 108 | 317 => 152 | 318 => 153 | 319 => 154 | 320 => 155 | 337 => 171 | 338 => 172 | n => n, fun | 3 => 3 | 9 => 9 | 2 => 2 | 4 => 4 | 171 => 171 | 0 => 0 | 53 => 38 | 37 => 102 | 5 => 5 | 173 => 173 | 212 => 208 | 51 => 162 | 20 => 20 | 213 => 209 | 46 => 132 | 232 => 244 | 233 => 245 | n => n, fun | 17 => 2 | 18 => 12 | 19 => 13 | n => n⟩
theorem Tryz.laysM171 : Go.Proofs.LaysM.n171 Tryz.prog Tryz.laysM171_ren := {
  mixed := by kernel_rfl
  f129 := Tryz.func108.trans (congrArg some (by kernel_rfl))
  f171 := Tryz.func166.trans (congrArg some (by kernel_rfl))
  f243 := Tryz.func189.trans (congrArg some (by kernel_rfl))
  f246 := Tryz.func80.trans (congrArg some (by kernel_rfl))
  f283 := Tryz.func113.trans (congrArg some (by kernel_rfl))
  f284 := Tryz.func114.trans (congrArg some (by kernel_rfl))
  f285 := Tryz.func115.trans (congrArg some (by kernel_rfl))
  f286 := Tryz.func116.trans (congrArg some (by kernel_rfl))
  f317 := Tryz.func152.trans (congrArg some (by kernel_rfl))
  f318 := Tryz.func153.trans (congrArg some (by kernel_rfl))
  f319 := Tryz.func154.trans (congrArg some (by kernel_rfl))
  f320 := Tryz.func155.trans (congrArg some (by kernel_rfl))
  f337 := Tryz.func171.trans (congrArg some (by kernel_rfl))
  f338 := Tryz.func172.trans (congrArg some (by kernel_rfl))
  t0 := Tryz.underlying0
  a0 := Tryz.isAgg0
  z0 := Tryz.sizeOf0
  v0 := Tryz.zeroValue0
  t2 := Tryz.underlying2
  a2 := Tryz.isAgg2
  z2 := Tryz.sizeOf2
  v2 := Tryz.zeroValue2
  t3 := Tryz.underlying3
  a3 := Tryz.isAgg3
  z3 := Tryz.sizeOf3
  v3 := Tryz.zeroValue3
  t4 := Tryz.underlying4
  a4 := Tryz.isAgg4
  z4 := Tryz.sizeOf4
  v4 := Tryz.zeroValue4
  t5 := Tryz.underlying5
  a5 := Tryz.isAgg5
  z5 := Tryz.sizeOf5
  v5 := Tryz.zeroValue5
  t9 := Tryz.underlying9
  a9 := Tryz.isAgg9
  z9 := Tryz.sizeOf9
  v9 := Tryz.zeroValue9
  t20 := Tryz.underlying20
  a20 := Tryz.isAgg20
  z20 := Tryz.sizeOf20
  v20 := Tryz.zeroValue20
  t37 := Tryz.underlying102
  a37 := Tryz.isAgg102
  z37 := Tryz.sizeOf102
  v37 := Tryz.zeroValue102
  t46 := Tryz.underlying132
  a46 := Tryz.isAgg132
  z46 := Tryz.sizeOf132
  v46 := Tryz.zeroValue132
  t51 := Tryz.underlying162
  a51 := Tryz.isAgg162
  z51 := Tryz.sizeOf162
  v51 := Tryz.zeroValue162
  t53 := Tryz.underlying38
  a53 := Tryz.isAgg38
  z53 := Tryz.sizeOf38
  v53 := Tryz.zeroValue38
  t171 := Tryz.underlying171
  a171 := Tryz.isAgg171
  z171 := Tryz.sizeOf171
  v171 := Tryz.zeroValue171
  t173 := Tryz.underlying173
  a173 := Tryz.isAgg173
  z173 := Tryz.sizeOf173
  v173 := Tryz.zeroValue173
  t212 := Tryz.underlying208
  a212 := Tryz.isAgg208
  z212 := Tryz.sizeOf208
  v212 := Tryz.zeroValue208
  t213 := Tryz.underlying209
  a213 := Tryz.isAgg209
  z213 := Tryz.sizeOf209
  t232 := Tryz.underlying244
  a232 := Tryz.isAgg244
  z232 := Tryz.sizeOf244
  v232 := Tryz.zeroValue244
  t233 := Tryz.underlying245
  a233 := Tryz.isAgg245
  z233 := Tryz.sizeOf245
  v233 := Tryz.zeroValue245
  g17 := by kernel_rfl
  g18 := by kernel_rfl
  g19 := by kernel_rfl
  i0 := by kernel_rfl
  i2 := by kernel_rfl
  i3 := by kernel_rfl
  i4 := by kernel_rfl
  i5 := by kernel_rfl
  i9 := by kernel_rfl
  i20 := by kernel_rfl
  i37 := by kernel_rfl
  i46 := by kernel_rfl
  i51 := by kernel_rfl
  i53 := by kernel_rfl
  i171 := by kernel_rfl
  i173 := by kernel_rfl
  i212 := by kernel_rfl
  i232 := by kernel_rfl
  i233 := by kernel_rfl
  m17 := by kernel_rfl
  m18 := by kernel_rfl
  m19 := by kernel_rfl }
open Go.RowKit Go.Sort Go.Lib in
/-- strconv.Itoa: "Itoa is equivalent to FormatInt(int64(i), 10).": i's DECIMAL NUMERAL ('Lib.itoa': a '-' where i is negative, then the digits), FOR EVERY int. The world behind the call: the world before it, new blocks behind the heap (the library's 'var a [24]byte'), draws. (LAID: no walk: one application.) -/
theorem Tryz.strconv_Itoa (n : Int) (h0 : -9223372036854775808 ≤ n) (h1 : n ≤ 9223372036854775807) (w : World) (htab : Lib.TabIs Tryz.prog w "internal/strconv.uint64pow10" .u64 Lib.pow10Tab) :
    Calls Tryz.prog 166 #[.int .i64 n] w fun e w' => e = .returned (.string ⟨(Lib.itoa n).toArray⟩) ∧ ∃ k os, w' = grow (w.drewN k) os := Any.strconv_Itoa Tryz.laysM171 n h0 h1 w htab
def Tryz.lays171_ren : Go.Shelf.Ren := ⟨fun | 171 => 166 | 243 => 189 | 246 => 80 | 283 => 113 | 284 => 114 | 285 => 115 | 286 => 116 | 129 => 108 | 317 => 152 | 318 => 153 | 319 => 154 | 320 => 155 | 337 => 171 | 338 => 172 | n => n, fun | 3 => 3 | 9 => 9 | 2 => 2 | 4 => 4 | 171 => 171 | 0 => 0 | 53 => 38 | 37 => 102 | 5 => 5 | 173 => 173 | 212 => 208 | 51 => 162 | 20 => 20 | 213 => 209 | 46 => 132 | 232 => 244 | 233 => 245 | n => n, fun | 17 => 2 | 18 => 12 | 19 => 13 | n => n⟩
theorem Tryz.lays171 : Go.Proofs.Lays.n171 Tryz.prog Tryz.lays171_ren := {
  mixed := by kernel_rfl
  f129 := Tryz.func108.trans (congrArg some (by kernel_rfl))
  f171 := Tryz.func166.trans (congrArg some (by kernel_rfl))
  f243 := Tryz.func189.trans (congrArg some (by kernel_rfl))
  f246 := Tryz.func80.trans (congrArg some (by kernel_rfl))
  f283 := Tryz.func113.trans (congrArg some (by kernel_rfl))
  f284 := Tryz.func114.trans (congrArg some (by kernel_rfl))
  f285 := Tryz.func115.trans (congrArg some (by kernel_rfl))
  f286 := Tryz.func116.trans (congrArg some (by kernel_rfl))
  f317 := Tryz.func152.trans (congrArg some (by kernel_rfl))
  f318 := Tryz.func153.trans (congrArg some (by kernel_rfl))
  f319 := Tryz.func154.trans (congrArg some (by kernel_rfl))
  f320 := Tryz.func155.trans (congrArg some (by kernel_rfl))
  f337 := Tryz.func171.trans (congrArg some (by kernel_rfl))
  f338 := Tryz.func172.trans (congrArg some (by kernel_rfl))
  t0 := Tryz.underlying0
  a0 := Tryz.isAgg0
  z0 := Tryz.sizeOf0
  v0 := Tryz.zeroValue0
  t2 := Tryz.underlying2
  a2 := Tryz.isAgg2
  z2 := Tryz.sizeOf2
  v2 := Tryz.zeroValue2
  t3 := Tryz.underlying3
  a3 := Tryz.isAgg3
  z3 := Tryz.sizeOf3
  v3 := Tryz.zeroValue3
  t4 := Tryz.underlying4
  a4 := Tryz.isAgg4
  z4 := Tryz.sizeOf4
  v4 := Tryz.zeroValue4
  t5 := Tryz.underlying5
  a5 := Tryz.isAgg5
  z5 := Tryz.sizeOf5
  v5 := Tryz.zeroValue5
  t9 := Tryz.underlying9
  a9 := Tryz.isAgg9
  z9 := Tryz.sizeOf9
  v9 := Tryz.zeroValue9
  t20 := Tryz.underlying20
  a20 := Tryz.isAgg20
  z20 := Tryz.sizeOf20
  v20 := Tryz.zeroValue20
  t37 := Tryz.underlying102
  a37 := Tryz.isAgg102
  z37 := Tryz.sizeOf102
  v37 := Tryz.zeroValue102
  t46 := Tryz.underlying132
  a46 := Tryz.isAgg132
  z46 := Tryz.sizeOf132
  v46 := Tryz.zeroValue132
  t51 := Tryz.underlying162
  a51 := Tryz.isAgg162
  z51 := Tryz.sizeOf162
  v51 := Tryz.zeroValue162
  t53 := Tryz.underlying38
  a53 := Tryz.isAgg38
  z53 := Tryz.sizeOf38
  v53 := Tryz.zeroValue38
  t171 := Tryz.underlying171
  a171 := Tryz.isAgg171
  z171 := Tryz.sizeOf171
  v171 := Tryz.zeroValue171
  t173 := Tryz.underlying173
  a173 := Tryz.isAgg173
  z173 := Tryz.sizeOf173
  v173 := Tryz.zeroValue173
  t212 := Tryz.underlying208
  a212 := Tryz.isAgg208
  z212 := Tryz.sizeOf208
  v212 := Tryz.zeroValue208
  t213 := Tryz.underlying209
  a213 := Tryz.isAgg209
  z213 := Tryz.sizeOf209
  t232 := Tryz.underlying244
  a232 := Tryz.isAgg244
  z232 := Tryz.sizeOf244
  v232 := Tryz.zeroValue244
  t233 := Tryz.underlying245
  a233 := Tryz.isAgg245
  z233 := Tryz.sizeOf245
  v233 := Tryz.zeroValue245
  g17 := by kernel_rfl
  g18 := by kernel_rfl
  g19 := by kernel_rfl }
open Go.RowKit Go.Sort Go.Lib in
/-- THE ROAD WITHOUT THE TABLE: 0 <= i < 100: NO PREMISE ON THE WORLD, AND THE WORLD IS AS IT WAS: a row that keeps its argument in that range need list no table ('laid = []'). (LAID: no walk: one application.) -/
theorem Tryz.strconv_Itoa_small (i : Nat) (hi : i < 100) (w : World) :
    Calls Tryz.prog 166 #[.int .i64 i] w fun e w' => e = .returned (.string ⟨(Lib.decDigits i).toArray⟩) ∧ w' = w := Any.strconv_Itoa_small Tryz.lays171 i hi w
def Tryz.laysM173_ren : Go.Shelf.Ren := ⟨fun | 173 => 54 | 246 => 80 | 283 => 113 | 284 => 114 | 285 => 115 | 286 => 116 | 129 => 108 | 317 => 152 | 318 => 153 | 319 => 154 | 320 => 155 | 337 => 171 | 338 => 172 | n => n, fun | 2 => 2 | 3 => 3 | 9 => 9 | 4 => 4 | 171 => 171 | 0 => 0 | 53 => 38 | 37 => 102 | 5 => 5 | 173 => 173 | 212 => 208 | 51 => 162 | 20 => 20 | 213 => 209 | 46 => 132 | 232 => 244 | 233 => 245 | n => n, fun | 17 => 2 | 18 => 12 | 19 => 13 | n => n⟩
theorem Tryz.laysM173 : Go.Proofs.LaysM.n173 Tryz.prog Tryz.laysM173_ren := {
  mixed := by kernel_rfl
  f129 := Tryz.func108.trans (congrArg some (by kernel_rfl))
  f173 := Tryz.func54.trans (congrArg some (by kernel_rfl))
  f246 := Tryz.func80.trans (congrArg some (by kernel_rfl))
  f283 := Tryz.func113.trans (congrArg some (by kernel_rfl))
  f284 := Tryz.func114.trans (congrArg some (by kernel_rfl))
  f285 := Tryz.func115.trans (congrArg some (by kernel_rfl))
  f286 := Tryz.func116.trans (congrArg some (by kernel_rfl))
  f317 := Tryz.func152.trans (congrArg some (by kernel_rfl))
  f318 := Tryz.func153.trans (congrArg some (by kernel_rfl))
  f319 := Tryz.func154.trans (congrArg some (by kernel_rfl))
  f320 := Tryz.func155.trans (congrArg some (by kernel_rfl))
  f337 := Tryz.func171.trans (congrArg some (by kernel_rfl))
  f338 := Tryz.func172.trans (congrArg some (by kernel_rfl))
  t0 := Tryz.underlying0
  a0 := Tryz.isAgg0
  z0 := Tryz.sizeOf0
  v0 := Tryz.zeroValue0
  t2 := Tryz.underlying2
  a2 := Tryz.isAgg2
  z2 := Tryz.sizeOf2
  v2 := Tryz.zeroValue2
  t3 := Tryz.underlying3
  a3 := Tryz.isAgg3
  z3 := Tryz.sizeOf3
  v3 := Tryz.zeroValue3
  t4 := Tryz.underlying4
  a4 := Tryz.isAgg4
  z4 := Tryz.sizeOf4
  v4 := Tryz.zeroValue4
  t5 := Tryz.underlying5
  a5 := Tryz.isAgg5
  z5 := Tryz.sizeOf5
  v5 := Tryz.zeroValue5
  t9 := Tryz.underlying9
  a9 := Tryz.isAgg9
  z9 := Tryz.sizeOf9
  v9 := Tryz.zeroValue9
  t20 := Tryz.underlying20
  a20 := Tryz.isAgg20
  z20 := Tryz.sizeOf20
  v20 := Tryz.zeroValue20
  t37 := Tryz.underlying102
  a37 := Tryz.isAgg102
  z37 := Tryz.sizeOf102
  v37 := Tryz.zeroValue102
  t46 := Tryz.underlying132
  a46 := Tryz.isAgg132
  z46 := Tryz.sizeOf132
  v46 := Tryz.zeroValue132
  t51 := Tryz.underlying162
  a51 := Tryz.isAgg162
  z51 := Tryz.sizeOf162
  v51 := Tryz.zeroValue162
  t53 := Tryz.underlying38
  a53 := Tryz.isAgg38
  z53 := Tryz.sizeOf38
  v53 := Tryz.zeroValue38
  t171 := Tryz.underlying171
  a171 := Tryz.isAgg171
  z171 := Tryz.sizeOf171
  v171 := Tryz.zeroValue171
  t173 := Tryz.underlying173
  a173 := Tryz.isAgg173
  z173 := Tryz.sizeOf173
  v173 := Tryz.zeroValue173
  t212 := Tryz.underlying208
  a212 := Tryz.isAgg208
  z212 := Tryz.sizeOf208
  v212 := Tryz.zeroValue208
  t213 := Tryz.underlying209
  a213 := Tryz.isAgg209
  z213 := Tryz.sizeOf209
  t232 := Tryz.underlying244
  a232 := Tryz.isAgg244
  z232 := Tryz.sizeOf244
  v232 := Tryz.zeroValue244
  t233 := Tryz.underlying245
  a233 := Tryz.isAgg245
  z233 := Tryz.sizeOf245
  v233 := Tryz.zeroValue245
  g17 := by kernel_rfl
  g18 := by kernel_rfl
  g19 := by kernel_rfl
  i0 := by kernel_rfl
  i2 := by kernel_rfl
  i3 := by kernel_rfl
  i4 := by kernel_rfl
  i5 := by kernel_rfl
  i9 := by kernel_rfl
  i20 := by kernel_rfl
  i37 := by kernel_rfl
  i46 := by kernel_rfl
  i51 := by kernel_rfl
  i53 := by kernel_rfl
  i171 := by kernel_rfl
  i173 := by kernel_rfl
  i212 := by kernel_rfl
  i232 := by kernel_rfl
  i233 := by kernel_rfl
  m17 := by kernel_rfl
  m18 := by kernel_rfl
  m19 := by kernel_rfl }
open Go.RowKit Go.Sort Go.Lib in
/-- strconv.FormatInt: "FormatInt returns the string representation of i in the given base": AT BASE 10: i's decimal numeral, for every int64. (LAID: no walk: one application.) -/
theorem Tryz.strconv_FormatInt_10 (n : Int) (h0 : -9223372036854775808 ≤ n) (h1 : n ≤ 9223372036854775807) (w : World) (htab : Lib.TabIs Tryz.prog w "internal/strconv.uint64pow10" .u64 Lib.pow10Tab) :
    Calls Tryz.prog 54 #[.int .i64 n, .int .i64 10] w fun e w' => e = .returned (.string ⟨(Lib.itoa n).toArray⟩) ∧ ∃ k os, w' = grow (w.drewN k) os := Any.strconv_FormatInt_10 Tryz.laysM173 n h0 h1 w htab
def Tryz.lays173_ren : Go.Shelf.Ren := ⟨fun | 173 => 54 | 246 => 80 | 283 => 113 | 284 => 114 | 285 => 115 | 286 => 116 | 129 => 108 | 317 => 152 | 318 => 153 | 319 => 154 | 320 => 155 | 337 => 171 | 338 => 172 | n => n, fun | 2 => 2 | 3 => 3 | 9 => 9 | 4 => 4 | 171 => 171 | 0 => 0 | 53 => 38 | 37 => 102 | 5 => 5 | 173 => 173 | 212 => 208 | 51 => 162 | 20 => 20 | 213 => 209 | 46 => 132 | 232 => 244 | 233 => 245 | n => n, fun | 17 => 2 | 18 => 12 | 19 => 13 | n => n⟩
theorem Tryz.lays173 : Go.Proofs.Lays.n173 Tryz.prog Tryz.lays173_ren := {
  mixed := by kernel_rfl
  f129 := Tryz.func108.trans (congrArg some (by kernel_rfl))
  f173 := Tryz.func54.trans (congrArg some (by kernel_rfl))
  f246 := Tryz.func80.trans (congrArg some (by kernel_rfl))
  f283 := Tryz.func113.trans (congrArg some (by kernel_rfl))
  f284 := Tryz.func114.trans (congrArg some (by kernel_rfl))
  f285 := Tryz.func115.trans (congrArg some (by kernel_rfl))
  f286 := Tryz.func116.trans (congrArg some (by kernel_rfl))
  f317 := Tryz.func152.trans (congrArg some (by kernel_rfl))
  f318 := Tryz.func153.trans (congrArg some (by kernel_rfl))
  f319 := Tryz.func154.trans (congrArg some (by kernel_rfl))
  f320 := Tryz.func155.trans (congrArg some (by kernel_rfl))
  f337 := Tryz.func171.trans (congrArg some (by kernel_rfl))
  f338 := Tryz.func172.trans (congrArg some (by kernel_rfl))
  t0 := Tryz.underlying0
  a0 := Tryz.isAgg0
  z0 := Tryz.sizeOf0
  v0 := Tryz.zeroValue0
  t2 := Tryz.underlying2
  a2 := Tryz.isAgg2
  z2 := Tryz.sizeOf2
  v2 := Tryz.zeroValue2
  t3 := Tryz.underlying3
  a3 := Tryz.isAgg3
  z3 := Tryz.sizeOf3
  v3 := Tryz.zeroValue3
  t4 := Tryz.underlying4
  a4 := Tryz.isAgg4
  z4 := Tryz.sizeOf4
  v4 := Tryz.zeroValue4
  t5 := Tryz.underlying5
  a5 := Tryz.isAgg5
  z5 := Tryz.sizeOf5
  v5 := Tryz.zeroValue5
  t9 := Tryz.underlying9
  a9 := Tryz.isAgg9
  z9 := Tryz.sizeOf9
  v9 := Tryz.zeroValue9
  t20 := Tryz.underlying20
  a20 := Tryz.isAgg20
  z20 := Tryz.sizeOf20
  v20 := Tryz.zeroValue20
  t37 := Tryz.underlying102
  a37 := Tryz.isAgg102
  z37 := Tryz.sizeOf102
  v37 := Tryz.zeroValue102
  t46 := Tryz.underlying132
  a46 := Tryz.isAgg132
  z46 := Tryz.sizeOf132
  v46 := Tryz.zeroValue132
  t51 := Tryz.underlying162
  a51 := Tryz.isAgg162
  z51 := Tryz.sizeOf162
  v51 := Tryz.zeroValue162
  t53 := Tryz.underlying38
  a53 := Tryz.isAgg38
  z53 := Tryz.sizeOf38
  v53 := Tryz.zeroValue38
  t171 := Tryz.underlying171
  a171 := Tryz.isAgg171
  z171 := Tryz.sizeOf171
  v171 := Tryz.zeroValue171
  t173 := Tryz.underlying173
  a173 := Tryz.isAgg173
  z173 := Tryz.sizeOf173
  v173 := Tryz.zeroValue173
  t212 := Tryz.underlying208
  a212 := Tryz.isAgg208
  z212 := Tryz.sizeOf208
  v212 := Tryz.zeroValue208
  t213 := Tryz.underlying209
  a213 := Tryz.isAgg209
  z213 := Tryz.sizeOf209
  t232 := Tryz.underlying244
  a232 := Tryz.isAgg244
  z232 := Tryz.sizeOf244
  v232 := Tryz.zeroValue244
  t233 := Tryz.underlying245
  a233 := Tryz.isAgg245
  z233 := Tryz.sizeOf245
  v233 := Tryz.zeroValue245
  g17 := by kernel_rfl
  g18 := by kernel_rfl
  g19 := by kernel_rfl }
open Go.RowKit Go.Sort Go.Lib in
/-- THE ROAD WITHOUT THE TABLE: 0 <= i < 100. (LAID: no walk: one application.) -/
theorem Tryz.strconv_FormatInt_10_small (i : Nat) (hi : i < 100) (w : World) :
    Calls Tryz.prog 54 #[.int .i64 i, .int .i64 10] w fun e w' => e = .returned (.string ⟨(Lib.decDigits i).toArray⟩) ∧ w' = w := Any.strconv_FormatInt_10_small Tryz.lays173 i hi w
def Tryz.laysPu14_ren : Go.Shelf.Ren := ⟨fun | 14 => 72 | 16 => 96 | 17 => 97 | 19 => 135 | 20 => 136 | 21 => 137 | 22 => 138 | 23 => 139 | 24 => 140 | 25 => 165 | 27 => 166 | 26 => 70 | 28 => 189 | 29 => 80 | 30 => 113 | 31 => 114 | 32 => 115 | 33 => 116 | 35 => 108 | 34 => 152 | 36 => 153 | 37 => 154 | 38 => 155 | 39 => 171 | 40 => 172 | n => n, fun | 9 => 9 | 3 => 3 | 22 => 38 | 24 => 97 | 25 => 122 | 4 => 4 | 34 => 192 | 5 => 5 | 36 => 132 | 37 => 102 | 0 => 0 | 39 => 195 | 21 => 21 | 44 => 219 | 47 => 134 | 50 => 150 | 48 => 148 | 2 => 2 | 52 => 171 | 55 => 173 | 59 => 208 | 60 => 162 | 20 => 20 | 61 => 209 | 65 => 244 | 66 => 245 | 67 => 82 | n => n, fun | 0 => 3 | 1 => 4 | 2 => 2 | 3 => 12 | 4 => 13 | n => n⟩
theorem Tryz.laysPu14 : Go.Proofs.LaysPu.n14 Tryz.prog Tryz.laysPu14_ren := {
  mixed := by kernel_rfl
  f14 := Tryz.func72.trans (congrArg some (by kernel_rfl))
  f16 := Tryz.func96.trans (congrArg some (by kernel_rfl))
  f17 := Tryz.func97.trans (congrArg some (by kernel_rfl))
  f19 := Tryz.func135.trans (congrArg some (by kernel_rfl))
  f20 := Tryz.func136.trans (congrArg some (by kernel_rfl))
  f21 := Tryz.func137.trans (congrArg some (by kernel_rfl))
  f22 := Tryz.func138.trans (congrArg some (by kernel_rfl))
  f23 := Tryz.func139.trans (congrArg some (by kernel_rfl))
  f24 := Tryz.func140.trans (congrArg some (by kernel_rfl))
  f25 := Tryz.func165.trans (congrArg some (by kernel_rfl))
  f26 := Tryz.func70.trans (congrArg some (by kernel_rfl))
  f27 := Tryz.func166.trans (congrArg some (by kernel_rfl))
  f28 := Tryz.func189.trans (congrArg some (by kernel_rfl))
  f29 := Tryz.func80.trans (congrArg some (by kernel_rfl))
  f30 := Tryz.func113.trans (congrArg some (by kernel_rfl))
  f31 := Tryz.func114.trans (congrArg some (by kernel_rfl))
  f32 := Tryz.func115.trans (congrArg some (by kernel_rfl))
  f33 := Tryz.func116.trans (congrArg some (by kernel_rfl))
  f34 := Tryz.func152.trans (congrArg some (by kernel_rfl))
  f35 := Tryz.func108.trans (congrArg some (by kernel_rfl))
  f36 := Tryz.func153.trans (congrArg some (by kernel_rfl))
  f37 := Tryz.func154.trans (congrArg some (by kernel_rfl))
  f38 := Tryz.func155.trans (congrArg some (by kernel_rfl))
  f39 := Tryz.func171.trans (congrArg some (by kernel_rfl))
  f40 := Tryz.func172.trans (congrArg some (by kernel_rfl))
  t0 := Tryz.underlying0
  a0 := Tryz.isAgg0
  z0 := Tryz.sizeOf0
  v0 := Tryz.zeroValue0
  i0 := by kernel_rfl
  t2 := Tryz.underlying2
  a2 := Tryz.isAgg2
  z2 := Tryz.sizeOf2
  v2 := Tryz.zeroValue2
  i2 := by kernel_rfl
  t3 := Tryz.underlying3
  a3 := Tryz.isAgg3
  z3 := Tryz.sizeOf3
  v3 := Tryz.zeroValue3
  i3 := by kernel_rfl
  t4 := Tryz.underlying4
  a4 := Tryz.isAgg4
  z4 := Tryz.sizeOf4
  v4 := Tryz.zeroValue4
  i4 := by kernel_rfl
  t5 := Tryz.underlying5
  a5 := Tryz.isAgg5
  z5 := Tryz.sizeOf5
  v5 := Tryz.zeroValue5
  i5 := by kernel_rfl
  t9 := Tryz.underlying9
  a9 := Tryz.isAgg9
  z9 := Tryz.sizeOf9
  v9 := Tryz.zeroValue9
  i9 := by kernel_rfl
  t20 := Tryz.underlying20
  a20 := Tryz.isAgg20
  z20 := Tryz.sizeOf20
  v20 := Tryz.zeroValue20
  i20 := by kernel_rfl
  t21 := Tryz.underlying21
  a21 := Tryz.isAgg21
  z21 := Tryz.sizeOf21
  v21 := Tryz.zeroValue21
  i21 := by kernel_rfl
  t22 := Tryz.underlying38
  a22 := Tryz.isAgg38
  z22 := Tryz.sizeOf38
  v22 := Tryz.zeroValue38
  i22 := by kernel_rfl
  t24 := Tryz.underlying97
  a24 := Tryz.isAgg97
  z24 := Tryz.sizeOf97
  v24 := Tryz.zeroValue97
  i24 := by kernel_rfl
  t25 := Tryz.underlying122
  a25 := Tryz.isAgg122
  z25 := Tryz.sizeOf122
  v25 := Tryz.zeroValue122
  i25 := by kernel_rfl
  t34 := Tryz.underlying192
  a34 := Tryz.isAgg192
  z34 := Tryz.sizeOf192
  v34 := Tryz.zeroValue192
  i34 := by kernel_rfl
  c34 := by kernel_rfl
  t36 := Tryz.underlying132
  a36 := Tryz.isAgg132
  z36 := Tryz.sizeOf132
  v36 := Tryz.zeroValue132
  i36 := by kernel_rfl
  t37 := Tryz.underlying102
  a37 := Tryz.isAgg102
  z37 := Tryz.sizeOf102
  v37 := Tryz.zeroValue102
  i37 := by kernel_rfl
  t39 := Tryz.underlying195
  a39 := Tryz.isAgg195
  z39 := Tryz.sizeOf195
  v39 := Tryz.zeroValue195
  i39 := by kernel_rfl
  t44 := Tryz.underlying219
  a44 := Tryz.isAgg219
  z44 := Tryz.sizeOf219
  v44 := Tryz.zeroValue219
  i44 := by kernel_rfl
  t47 := Tryz.underlying134
  a47 := Tryz.isAgg134
  z47 := Tryz.sizeOf134
  v47 := Tryz.zeroValue134
  i47 := by kernel_rfl
  t48 := Tryz.underlying148
  a48 := Tryz.isAgg148
  z48 := Tryz.sizeOf148
  v48 := Tryz.zeroValue148
  i48 := by kernel_rfl
  t50 := Tryz.underlying150
  a50 := Tryz.isAgg150
  z50 := Tryz.sizeOf150
  v50 := Tryz.zeroValue150
  i50 := by kernel_rfl
  t52 := Tryz.underlying171
  a52 := Tryz.isAgg171
  z52 := Tryz.sizeOf171
  v52 := Tryz.zeroValue171
  i52 := by kernel_rfl
  t55 := Tryz.underlying173
  a55 := Tryz.isAgg173
  z55 := Tryz.sizeOf173
  v55 := Tryz.zeroValue173
  i55 := by kernel_rfl
  t59 := Tryz.underlying208
  a59 := Tryz.isAgg208
  z59 := Tryz.sizeOf208
  v59 := Tryz.zeroValue208
  i59 := by kernel_rfl
  t60 := Tryz.underlying162
  a60 := Tryz.isAgg162
  z60 := Tryz.sizeOf162
  v60 := Tryz.zeroValue162
  i60 := by kernel_rfl
  t61 := Tryz.underlying209
  a61 := Tryz.isAgg209
  z61 := Tryz.sizeOf209
  t65 := Tryz.underlying244
  a65 := Tryz.isAgg244
  z65 := Tryz.sizeOf244
  v65 := Tryz.zeroValue244
  i65 := by kernel_rfl
  t66 := Tryz.underlying245
  a66 := Tryz.isAgg245
  z66 := Tryz.sizeOf245
  v66 := Tryz.zeroValue245
  i66 := by kernel_rfl
  t67 := Tryz.underlying82
  a67 := Tryz.isAgg82
  z67 := Tryz.sizeOf82
  v67 := Tryz.zeroValue82
  i67 := by kernel_rfl
  g0 := by kernel_rfl
  m0 := by kernel_rfl
  g1 := by kernel_rfl
  m1 := by kernel_rfl
  g2 := by kernel_rfl
  m2 := by kernel_rfl
  g3 := by kernel_rfl
  m3 := by kernel_rfl
  g4 := by kernel_rfl
  m4 := by kernel_rfl }
open Go.RowKit in
/-- strconv.ParseUint(s, 10, 0), AT EVERY STRING THAT SPELLS A uint64 ('Lib.parseUintB 64 s.data.toList = .ok u'): u, AND NO ERROR. (LAID: no walk: one application.) -/
theorem Tryz.strconv_ParseUint_10_at0_ok (s : ByteArray) (hmax : s.size ≤ 9223372036854775806) (u : Nat) (h : Lib.parseUintB 64 s.data.toList = .ok u) (w : World) :
    Calls Tryz.prog 72 #[.string s, .int .i64 10, .int .i64 0] w fun e w' => e = .returned (.tuple #[.int .u64 u, .nilIface]) ∧ (w' = w ∨ w' = Lib.bytesWorld w 5 s) := Any.strconv_ParseUint_10_at0_ok Tryz.laysPu14 s hmax u h w
open Go.RowKit in
open Go.RowKit in
/-- strconv.ParseUint(s, 10, 0), AT EVERY NUMERAL THAT NO uint64 HOLDS: THE GREATEST uint64, AND AN ERROR THAT IS NOT nil: a *NumError in a new block N: {Func: "ParseUint", Num: s's bytes, Err: what the variable ErrRange holds}. Of what was there nothing has turned. (LAID: no walk: one application.) -/
theorem Tryz.strconv_ParseUint_10_at0_range (s : ByteArray) (hlim : s.size ≤ 281474976710656) (h : Lib.parseUintB 64 s.data.toList = .range) (ev : Value) (w : World) (hv : w.cell? ⟨4, 0, none⟩ = some ev) (hev : ev = .nilIface ∨ ∃ te pe, ev = .iface te pe) :
    Calls Tryz.prog 72 #[.string s, .int .i64 10, .int .i64 0] w fun e w' => ∃ N, e = .returned (.tuple #[.int .u64 18446744073709551615, .iface 195 (.pointer (some ⟨N, 0, none⟩))]) ∧ w.heap.size ≤ N ∧ w'.heap[N]? = some (.cells #[.string ⟨#[80, 97, 114, 115, 101, 85, 105, 110, 116]⟩, .string s, ev] 219 (0, 0)) ∧ Below w.heap.size w w' := Any.strconv_ParseUint_10_at0_range Tryz.laysPu14 s hlim h ev w hv hev
open Go.RowKit in
/-- strconv.ParseUint(s, 10, 64), AT EVERY STRING THAT SPELLS A uint64 ('Lib.parseUintB 64 s.data.toList = .ok u'): u, AND NO ERROR. (LAID: no walk: one application.) -/
theorem Tryz.strconv_ParseUint_10_at64_ok (s : ByteArray) (hmax : s.size ≤ 9223372036854775806) (u : Nat) (h : Lib.parseUintB 64 s.data.toList = .ok u) (w : World) :
    Calls Tryz.prog 72 #[.string s, .int .i64 10, .int .i64 64] w fun e w' => e = .returned (.tuple #[.int .u64 u, .nilIface]) ∧ (w' = w ∨ w' = Lib.bytesWorld w 5 s) := Any.strconv_ParseUint_10_at64_ok Tryz.laysPu14 s hmax u h w
open Go.RowKit in
open Go.RowKit in
/-- strconv.ParseUint(s, 10, 64), AT EVERY NUMERAL THAT NO uint64 HOLDS: THE GREATEST uint64, AND AN ERROR THAT IS NOT nil: a *NumError in a new block N: {Func: "ParseUint", Num: s's bytes, Err: what the variable ErrRange holds}. Of what was there nothing has turned. (LAID: no walk: one application.) -/
theorem Tryz.strconv_ParseUint_10_at64_range (s : ByteArray) (hlim : s.size ≤ 281474976710656) (h : Lib.parseUintB 64 s.data.toList = .range) (ev : Value) (w : World) (hv : w.cell? ⟨4, 0, none⟩ = some ev) (hev : ev = .nilIface ∨ ∃ te pe, ev = .iface te pe) :
    Calls Tryz.prog 72 #[.string s, .int .i64 10, .int .i64 64] w fun e w' => ∃ N, e = .returned (.tuple #[.int .u64 18446744073709551615, .iface 195 (.pointer (some ⟨N, 0, none⟩))]) ∧ w.heap.size ≤ N ∧ w'.heap[N]? = some (.cells #[.string ⟨#[80, 97, 114, 115, 101, 85, 105, 110, 116]⟩, .string s, ev] 219 (0, 0)) ∧ Below w.heap.size w w' := Any.strconv_ParseUint_10_at64_range Tryz.laysPu14 s hlim h ev w hv hev
open Go.RowKit in
/-- strconv.ParseUint(s, 10, 32), AT EVERY STRING THAT SPELLS A uint32 ('Lib.parseUintB 32 s.data.toList = .ok u'): u, AND NO ERROR. (LAID: no walk: one application.) -/
theorem Tryz.strconv_ParseUint_10_at32_ok (s : ByteArray) (hmax : s.size ≤ 9223372036854775806) (u : Nat) (h : Lib.parseUintB 32 s.data.toList = .ok u) (w : World) :
    Calls Tryz.prog 72 #[.string s, .int .i64 10, .int .i64 32] w fun e w' => e = .returned (.tuple #[.int .u64 u, .nilIface]) ∧ (w' = w ∨ w' = Lib.bytesWorld w 5 s) := Any.strconv_ParseUint_10_at32_ok Tryz.laysPu14 s hmax u h w
open Go.RowKit in
open Go.RowKit in
/-- strconv.ParseUint(s, 10, 32), AT EVERY NUMERAL THAT NO uint32 HOLDS: THE GREATEST uint32, AND AN ERROR THAT IS NOT nil: a *NumError in a new block N: {Func: "ParseUint", Num: s's bytes, Err: what the variable ErrRange holds}. Of what was there nothing has turned. (LAID: no walk: one application.) -/
theorem Tryz.strconv_ParseUint_10_at32_range (s : ByteArray) (hlim : s.size ≤ 281474976710656) (h : Lib.parseUintB 32 s.data.toList = .range) (ev : Value) (w : World) (hv : w.cell? ⟨4, 0, none⟩ = some ev) (hev : ev = .nilIface ∨ ∃ te pe, ev = .iface te pe) :
    Calls Tryz.prog 72 #[.string s, .int .i64 10, .int .i64 32] w fun e w' => ∃ N, e = .returned (.tuple #[.int .u64 4294967295, .iface 195 (.pointer (some ⟨N, 0, none⟩))]) ∧ w.heap.size ≤ N ∧ w'.heap[N]? = some (.cells #[.string ⟨#[80, 97, 114, 115, 101, 85, 105, 110, 116]⟩, .string s, ev] 219 (0, 0)) ∧ Below w.heap.size w w' := Any.strconv_ParseUint_10_at32_range Tryz.laysPu14 s hlim h ev w hv hev
open Go.RowKit in
/-- strconv.ParseUint(s, 10, 16), AT EVERY STRING THAT SPELLS A uint16 ('Lib.parseUintB 16 s.data.toList = .ok u'): u, AND NO ERROR. (LAID: no walk: one application.) -/
theorem Tryz.strconv_ParseUint_10_at16_ok (s : ByteArray) (hmax : s.size ≤ 9223372036854775806) (u : Nat) (h : Lib.parseUintB 16 s.data.toList = .ok u) (w : World) :
    Calls Tryz.prog 72 #[.string s, .int .i64 10, .int .i64 16] w fun e w' => e = .returned (.tuple #[.int .u64 u, .nilIface]) ∧ (w' = w ∨ w' = Lib.bytesWorld w 5 s) := Any.strconv_ParseUint_10_at16_ok Tryz.laysPu14 s hmax u h w
open Go.RowKit in
open Go.RowKit in
/-- strconv.ParseUint(s, 10, 16), AT EVERY NUMERAL THAT NO uint16 HOLDS: THE GREATEST uint16, AND AN ERROR THAT IS NOT nil: a *NumError in a new block N: {Func: "ParseUint", Num: s's bytes, Err: what the variable ErrRange holds}. Of what was there nothing has turned. (LAID: no walk: one application.) -/
theorem Tryz.strconv_ParseUint_10_at16_range (s : ByteArray) (hlim : s.size ≤ 281474976710656) (h : Lib.parseUintB 16 s.data.toList = .range) (ev : Value) (w : World) (hv : w.cell? ⟨4, 0, none⟩ = some ev) (hev : ev = .nilIface ∨ ∃ te pe, ev = .iface te pe) :
    Calls Tryz.prog 72 #[.string s, .int .i64 10, .int .i64 16] w fun e w' => ∃ N, e = .returned (.tuple #[.int .u64 65535, .iface 195 (.pointer (some ⟨N, 0, none⟩))]) ∧ w.heap.size ≤ N ∧ w'.heap[N]? = some (.cells #[.string ⟨#[80, 97, 114, 115, 101, 85, 105, 110, 116]⟩, .string s, ev] 219 (0, 0)) ∧ Below w.heap.size w w' := Any.strconv_ParseUint_10_at16_range Tryz.laysPu14 s hlim h ev w hv hev
open Go.RowKit in
/-- strconv.ParseUint(s, 10, 8), AT EVERY STRING THAT SPELLS A uint8 ('Lib.parseUintB 8 s.data.toList = .ok u'): u, AND NO ERROR. (LAID: no walk: one application.) -/
theorem Tryz.strconv_ParseUint_10_at8_ok (s : ByteArray) (hmax : s.size ≤ 9223372036854775806) (u : Nat) (h : Lib.parseUintB 8 s.data.toList = .ok u) (w : World) :
    Calls Tryz.prog 72 #[.string s, .int .i64 10, .int .i64 8] w fun e w' => e = .returned (.tuple #[.int .u64 u, .nilIface]) ∧ (w' = w ∨ w' = Lib.bytesWorld w 5 s) := Any.strconv_ParseUint_10_at8_ok Tryz.laysPu14 s hmax u h w
open Go.RowKit in
open Go.RowKit in
/-- strconv.ParseUint(s, 10, 8), AT EVERY NUMERAL THAT NO uint8 HOLDS: THE GREATEST uint8, AND AN ERROR THAT IS NOT nil: a *NumError in a new block N: {Func: "ParseUint", Num: s's bytes, Err: what the variable ErrRange holds}. Of what was there nothing has turned. (LAID: no walk: one application.) -/
theorem Tryz.strconv_ParseUint_10_at8_range (s : ByteArray) (hlim : s.size ≤ 281474976710656) (h : Lib.parseUintB 8 s.data.toList = .range) (ev : Value) (w : World) (hv : w.cell? ⟨4, 0, none⟩ = some ev) (hev : ev = .nilIface ∨ ∃ te pe, ev = .iface te pe) :
    Calls Tryz.prog 72 #[.string s, .int .i64 10, .int .i64 8] w fun e w' => ∃ N, e = .returned (.tuple #[.int .u64 255, .iface 195 (.pointer (some ⟨N, 0, none⟩))]) ∧ w.heap.size ≤ N ∧ w'.heap[N]? = some (.cells #[.string ⟨#[80, 97, 114, 115, 101, 85, 105, 110, 116]⟩, .string s, ev] 219 (0, 0)) ∧ Below w.heap.size w w' := Any.strconv_ParseUint_10_at8_range Tryz.laysPu14 s hlim h ev w hv hev
open Go.RowKit in
open Go.RowKit in
theorem Tryz.strconv_ParseUint_10_at0_range_var (s : ByteArray) (hlim : s.size ≤ 281474976710656) (h : Lib.parseUintB 64 s.data.toList = .range) (tp : TypeId) (p : Value) (w : World) (hvar : w.var? Tryz.prog "strconv.ErrRange" = some #[.iface tp p]) :
    Calls Tryz.prog 72 #[.string s, .int .i64 10, .int .i64 0] w fun e w' => ∃ N, e = .returned (.tuple #[.int .u64 18446744073709551615, .iface 195 (.pointer (some ⟨N, 0, none⟩))]) ∧ w.heap.size ≤ N ∧ w'.heap[N]? = some (.cells #[.string ⟨#[80, 97, 114, 115, 101, 85, 105, 110, 116]⟩, .string s, .iface tp p] 219 (0, 0)) ∧ Below w.heap.size w w' := Any.strconv_ParseUint_10_at0_range_var Tryz.laysPu14 s hlim h tp p w hvar
open Go.RowKit in
open Go.RowKit in
theorem Tryz.strconv_ParseUint_10_at64_range_var (s : ByteArray) (hlim : s.size ≤ 281474976710656) (h : Lib.parseUintB 64 s.data.toList = .range) (tp : TypeId) (p : Value) (w : World) (hvar : w.var? Tryz.prog "strconv.ErrRange" = some #[.iface tp p]) :
    Calls Tryz.prog 72 #[.string s, .int .i64 10, .int .i64 64] w fun e w' => ∃ N, e = .returned (.tuple #[.int .u64 18446744073709551615, .iface 195 (.pointer (some ⟨N, 0, none⟩))]) ∧ w.heap.size ≤ N ∧ w'.heap[N]? = some (.cells #[.string ⟨#[80, 97, 114, 115, 101, 85, 105, 110, 116]⟩, .string s, .iface tp p] 219 (0, 0)) ∧ Below w.heap.size w w' := Any.strconv_ParseUint_10_at64_range_var Tryz.laysPu14 s hlim h tp p w hvar
open Go.RowKit in
open Go.RowKit in
theorem Tryz.strconv_ParseUint_10_at32_range_var (s : ByteArray) (hlim : s.size ≤ 281474976710656) (h : Lib.parseUintB 32 s.data.toList = .range) (tp : TypeId) (p : Value) (w : World) (hvar : w.var? Tryz.prog "strconv.ErrRange" = some #[.iface tp p]) :
    Calls Tryz.prog 72 #[.string s, .int .i64 10, .int .i64 32] w fun e w' => ∃ N, e = .returned (.tuple #[.int .u64 4294967295, .iface 195 (.pointer (some ⟨N, 0, none⟩))]) ∧ w.heap.size ≤ N ∧ w'.heap[N]? = some (.cells #[.string ⟨#[80, 97, 114, 115, 101, 85, 105, 110, 116]⟩, .string s, .iface tp p] 219 (0, 0)) ∧ Below w.heap.size w w' := Any.strconv_ParseUint_10_at32_range_var Tryz.laysPu14 s hlim h tp p w hvar
open Go.RowKit in
open Go.RowKit in
theorem Tryz.strconv_ParseUint_10_at16_range_var (s : ByteArray) (hlim : s.size ≤ 281474976710656) (h : Lib.parseUintB 16 s.data.toList = .range) (tp : TypeId) (p : Value) (w : World) (hvar : w.var? Tryz.prog "strconv.ErrRange" = some #[.iface tp p]) :
    Calls Tryz.prog 72 #[.string s, .int .i64 10, .int .i64 16] w fun e w' => ∃ N, e = .returned (.tuple #[.int .u64 65535, .iface 195 (.pointer (some ⟨N, 0, none⟩))]) ∧ w.heap.size ≤ N ∧ w'.heap[N]? = some (.cells #[.string ⟨#[80, 97, 114, 115, 101, 85, 105, 110, 116]⟩, .string s, .iface tp p] 219 (0, 0)) ∧ Below w.heap.size w w' := Any.strconv_ParseUint_10_at16_range_var Tryz.laysPu14 s hlim h tp p w hvar
open Go.RowKit in
open Go.RowKit in
theorem Tryz.strconv_ParseUint_10_at8_range_var (s : ByteArray) (hlim : s.size ≤ 281474976710656) (h : Lib.parseUintB 8 s.data.toList = .range) (tp : TypeId) (p : Value) (w : World) (hvar : w.var? Tryz.prog "strconv.ErrRange" = some #[.iface tp p]) :
    Calls Tryz.prog 72 #[.string s, .int .i64 10, .int .i64 8] w fun e w' => ∃ N, e = .returned (.tuple #[.int .u64 255, .iface 195 (.pointer (some ⟨N, 0, none⟩))]) ∧ w.heap.size ≤ N ∧ w'.heap[N]? = some (.cells #[.string ⟨#[80, 97, 114, 115, 101, 85, 105, 110, 116]⟩, .string s, .iface tp p] 219 (0, 0)) ∧ Below w.heap.size w w' := Any.strconv_ParseUint_10_at8_range_var Tryz.laysPu14 s hlim h tp p w hvar
def Tryz.lays217_ren : Go.Shelf.Ren := ⟨fun | 217 => 190 | 266 => 197 | n => n, fun | 9 => 9 | 5 => 5 | 3 => 3 | n => n, fun | n => n⟩
theorem Tryz.lays217 : Go.Proofs.Lays.n217 Tryz.prog Tryz.lays217_ren := {
  mixed := by kernel_rfl
  f217 := Tryz.func190.trans (congrArg some (by kernel_rfl))
  f266 := Tryz.func197.trans (congrArg some (by kernel_rfl))
  t3 := Tryz.underlying3
  a3 := Tryz.isAgg3
  z3 := Tryz.sizeOf3
  v3 := Tryz.zeroValue3
  t5 := Tryz.underlying5
  a5 := Tryz.isAgg5
  z5 := Tryz.sizeOf5
  v5 := Tryz.zeroValue5
  t9 := Tryz.underlying9
  a9 := Tryz.isAgg9
  z9 := Tryz.sizeOf9
  v9 := Tryz.zeroValue9 }
open Go.RowKit Go.Lib in
/-- internal/stringslite.IndexByte (what strings.IndexByte calls): IT RETURNS 'Lib.indexByte s c'; the world is as it was. (LAID: no walk: one application.) -/
theorem Tryz.stringslite_IndexByte (s : ByteArray) (c : Int) (w : World) :
    Calls Tryz.prog 190 #[.string s, .int .u8 c] w fun e w' => e = .returned (.int .i64 (Lib.indexByte s.data.toList c.toNat.toUInt8)) ∧ w' = w := Any.stringslite_IndexByte Tryz.lays217 s c w
def Tryz.lays224_ren : Go.Shelf.Ren := ⟨fun | 224 => 174 | n => n, fun | 3 => 3 | n => n, fun | n => n⟩
theorem Tryz.lays224 : Go.Proofs.Lays.n224 Tryz.prog Tryz.lays224_ren := {
  mixed := by kernel_rfl
  f224 := Tryz.func174.trans (congrArg some (by kernel_rfl))
  t3 := Tryz.underlying3
  a3 := Tryz.isAgg3
  z3 := Tryz.sizeOf3
  v3 := Tryz.zeroValue3 }
open Go.RowKit Go.Lib in
/-- internal/bytealg.Cutover: "Cutover reports the number of failures of IndexByte we should tolerate before switching over to Index. n is the number of bytes processed so far.": on amd64: (n + 16) / 8. (LAID: no walk: one application.) -/
theorem Tryz.bytealg_Cutover (n : Int) (h0 : 0 ≤ n) (h1 : n < 4611686018427387904) (w : World) :
    Calls Tryz.prog 174 #[.int .i64 n] w fun e w' => e = .returned (.int .i64 ((n + 16) / 8)) ∧ w' = w := Any.bytealg_Cutover Tryz.lays224 n h0 h1 w
def Tryz.lays190_ren : Go.Shelf.Ren := ⟨fun | 190 => 49 | 125 => 76 | 258 => 75 | 128 => 107 | 129 => 108 | 302 => 98 | 303 => 99 | 304 => 100 | 305 => 101 | 306 => 102 | 307 => 103 | 308 => 104 | 309 => 105 | 310 => 106 | 333 => 141 | 329 => 142 | 330 => 143 | 334 => 144 | 335 => 145 | 336 => 146 | 344 => 167 | n => n, fun | 31 => 57 | 9 => 9 | 3 => 3 | 46 => 132 | 0 => 0 | 51 => 162 | 53 => 38 | 4 => 4 | 183 => 154 | 182 => 153 | 131 => 159 | 5 => 5 | 218 => 198 | 222 => 202 | 228 => 220 | 229 => 221 | n => n, fun | n => n⟩
theorem Tryz.lays190 : Go.Proofs.Lays.n190 Tryz.prog Tryz.lays190_ren := {
  mixed := by kernel_rfl
  f125 := Tryz.func76.trans (congrArg some (by kernel_rfl))
  f128 := Tryz.func107.trans (congrArg some (by kernel_rfl))
  f129 := Tryz.func108.trans (congrArg some (by kernel_rfl))
  f190 := Tryz.func49.trans (congrArg some (by kernel_rfl))
  f258 := Tryz.func75.trans (congrArg some (by kernel_rfl))
  f302 := Tryz.func98.trans (congrArg some (by kernel_rfl))
  f303 := Tryz.func99.trans (congrArg some (by kernel_rfl))
  f304 := Tryz.func100.trans (congrArg some (by kernel_rfl))
  f305 := Tryz.func101.trans (congrArg some (by kernel_rfl))
  f306 := Tryz.func102.trans (congrArg some (by kernel_rfl))
  f307 := Tryz.func103.trans (congrArg some (by kernel_rfl))
  f308 := Tryz.func104.trans (congrArg some (by kernel_rfl))
  f309 := Tryz.func105.trans (congrArg some (by kernel_rfl))
  f310 := Tryz.func106.trans (congrArg some (by kernel_rfl))
  f329 := Tryz.func142.trans (congrArg some (by kernel_rfl))
  f330 := Tryz.func143.trans (congrArg some (by kernel_rfl))
  f333 := Tryz.func141.trans (congrArg some (by kernel_rfl))
  f334 := Tryz.func144.trans (congrArg some (by kernel_rfl))
  f335 := Tryz.func145.trans (congrArg some (by kernel_rfl))
  f336 := Tryz.func146.trans (congrArg some (by kernel_rfl))
  f344 := Tryz.func167.trans (congrArg some (by kernel_rfl))
  t0 := Tryz.underlying0
  a0 := Tryz.isAgg0
  z0 := Tryz.sizeOf0
  v0 := Tryz.zeroValue0
  t3 := Tryz.underlying3
  a3 := Tryz.isAgg3
  z3 := Tryz.sizeOf3
  v3 := Tryz.zeroValue3
  t4 := Tryz.underlying4
  a4 := Tryz.isAgg4
  z4 := Tryz.sizeOf4
  v4 := Tryz.zeroValue4
  t5 := Tryz.underlying5
  a5 := Tryz.isAgg5
  z5 := Tryz.sizeOf5
  v5 := Tryz.zeroValue5
  t9 := Tryz.underlying9
  a9 := Tryz.isAgg9
  z9 := Tryz.sizeOf9
  v9 := Tryz.zeroValue9
  t31 := Tryz.underlying57
  a31 := Tryz.isAgg57
  z31 := Tryz.sizeOf57
  v31 := Tryz.zeroValue57
  t46 := Tryz.underlying132
  a46 := Tryz.isAgg132
  z46 := Tryz.sizeOf132
  v46 := Tryz.zeroValue132
  t51 := Tryz.underlying162
  a51 := Tryz.isAgg162
  z51 := Tryz.sizeOf162
  v51 := Tryz.zeroValue162
  t53 := Tryz.underlying38
  a53 := Tryz.isAgg38
  z53 := Tryz.sizeOf38
  v53 := Tryz.zeroValue38
  t131 := Tryz.underlying159
  a131 := Tryz.isAgg159
  z131 := Tryz.sizeOf159
  v131 := Tryz.zeroValue159
  t182 := Tryz.underlying153
  a182 := Tryz.isAgg153
  z182 := Tryz.sizeOf153
  v182 := Tryz.zeroValue153
  t183 := Tryz.underlying154
  a183 := Tryz.isAgg154
  z183 := Tryz.sizeOf154
  v183 := Tryz.zeroValue154
  t218 := Tryz.underlying198
  a218 := Tryz.isAgg198
  z218 := Tryz.sizeOf198
  v218 := Tryz.zeroValue198
  t222 := Tryz.underlying202
  a222 := Tryz.isAgg202
  z222 := Tryz.sizeOf202
  v222 := Tryz.zeroValue202
  t228 := Tryz.underlying220
  a228 := Tryz.isAgg220
  z228 := Tryz.sizeOf220
  v228 := Tryz.zeroValue220
  t229 := Tryz.underlying221
  a229 := Tryz.isAgg221
  z229 := Tryz.sizeOf221
  v229 := Tryz.zeroValue221 }
open Go.Sort Go.RowKit in
theorem Tryz.slices_Sort_string (blk off cap : Nat) (ss : List (List UInt8)) (w : World) (hH : Holds encStr w blk off ss.toArray) (hblk : blk < w.heap.size) (hsz : ss.length < 4611686018427387904) :
    Calls Tryz.prog 49 #[.slice (some ⟨blk, off, none⟩) ss.length cap] w fun e w' =>
      e = .returned (.tuple #[]) ∧ ∃ n os, w' = grow (putRow encStr (Sort.ahead w n) blk off (ss.mergeSort fun x y => decide (x ≤ y)).toArray) os := Any.slices_Sort_string Tryz.lays190 blk off cap ss w hH hblk hsz
def Tryz.lays192_ren : Go.Shelf.Ren := ⟨fun | 192 => 23 | 190 => 49 | 125 => 76 | 258 => 75 | 128 => 107 | 129 => 108 | 302 => 98 | 303 => 99 | 304 => 100 | 305 => 101 | 306 => 102 | 307 => 103 | 308 => 104 | 309 => 105 | 310 => 106 | 333 => 141 | 329 => 142 | 330 => 143 | 334 => 144 | 335 => 145 | 336 => 146 | 344 => 167 | n => n, fun | 31 => 57 | 0 => 0 | 9 => 9 | 3 => 3 | 46 => 132 | 51 => 162 | 53 => 38 | 4 => 4 | 183 => 154 | 182 => 153 | 131 => 159 | 5 => 5 | 218 => 198 | 222 => 202 | 228 => 220 | 229 => 221 | n => n, fun | n => n⟩
theorem Tryz.lays192 : Go.Proofs.Lays.n192 Tryz.prog Tryz.lays192_ren := {
  mixed := by kernel_rfl
  f125 := Tryz.func76.trans (congrArg some (by kernel_rfl))
  f128 := Tryz.func107.trans (congrArg some (by kernel_rfl))
  f129 := Tryz.func108.trans (congrArg some (by kernel_rfl))
  f190 := Tryz.func49.trans (congrArg some (by kernel_rfl))
  f192 := Tryz.func23.trans (congrArg some (by kernel_rfl))
  f258 := Tryz.func75.trans (congrArg some (by kernel_rfl))
  f302 := Tryz.func98.trans (congrArg some (by kernel_rfl))
  f303 := Tryz.func99.trans (congrArg some (by kernel_rfl))
  f304 := Tryz.func100.trans (congrArg some (by kernel_rfl))
  f305 := Tryz.func101.trans (congrArg some (by kernel_rfl))
  f306 := Tryz.func102.trans (congrArg some (by kernel_rfl))
  f307 := Tryz.func103.trans (congrArg some (by kernel_rfl))
  f308 := Tryz.func104.trans (congrArg some (by kernel_rfl))
  f309 := Tryz.func105.trans (congrArg some (by kernel_rfl))
  f310 := Tryz.func106.trans (congrArg some (by kernel_rfl))
  f329 := Tryz.func142.trans (congrArg some (by kernel_rfl))
  f330 := Tryz.func143.trans (congrArg some (by kernel_rfl))
  f333 := Tryz.func141.trans (congrArg some (by kernel_rfl))
  f334 := Tryz.func144.trans (congrArg some (by kernel_rfl))
  f335 := Tryz.func145.trans (congrArg some (by kernel_rfl))
  f336 := Tryz.func146.trans (congrArg some (by kernel_rfl))
  f344 := Tryz.func167.trans (congrArg some (by kernel_rfl))
  t0 := Tryz.underlying0
  a0 := Tryz.isAgg0
  z0 := Tryz.sizeOf0
  v0 := Tryz.zeroValue0
  t3 := Tryz.underlying3
  a3 := Tryz.isAgg3
  z3 := Tryz.sizeOf3
  v3 := Tryz.zeroValue3
  t4 := Tryz.underlying4
  a4 := Tryz.isAgg4
  z4 := Tryz.sizeOf4
  v4 := Tryz.zeroValue4
  t5 := Tryz.underlying5
  a5 := Tryz.isAgg5
  z5 := Tryz.sizeOf5
  v5 := Tryz.zeroValue5
  t9 := Tryz.underlying9
  a9 := Tryz.isAgg9
  z9 := Tryz.sizeOf9
  v9 := Tryz.zeroValue9
  t31 := Tryz.underlying57
  a31 := Tryz.isAgg57
  z31 := Tryz.sizeOf57
  v31 := Tryz.zeroValue57
  t46 := Tryz.underlying132
  a46 := Tryz.isAgg132
  z46 := Tryz.sizeOf132
  v46 := Tryz.zeroValue132
  t51 := Tryz.underlying162
  a51 := Tryz.isAgg162
  z51 := Tryz.sizeOf162
  v51 := Tryz.zeroValue162
  t53 := Tryz.underlying38
  a53 := Tryz.isAgg38
  z53 := Tryz.sizeOf38
  v53 := Tryz.zeroValue38
  t131 := Tryz.underlying159
  a131 := Tryz.isAgg159
  z131 := Tryz.sizeOf159
  v131 := Tryz.zeroValue159
  t182 := Tryz.underlying153
  a182 := Tryz.isAgg153
  z182 := Tryz.sizeOf153
  v182 := Tryz.zeroValue153
  t183 := Tryz.underlying154
  a183 := Tryz.isAgg154
  z183 := Tryz.sizeOf154
  v183 := Tryz.zeroValue154
  t218 := Tryz.underlying198
  a218 := Tryz.isAgg198
  z218 := Tryz.sizeOf198
  v218 := Tryz.zeroValue198
  t222 := Tryz.underlying202
  a222 := Tryz.isAgg202
  z222 := Tryz.sizeOf202
  v222 := Tryz.zeroValue202
  t228 := Tryz.underlying220
  a228 := Tryz.isAgg220
  z228 := Tryz.sizeOf220
  v228 := Tryz.zeroValue220
  t229 := Tryz.underlying221
  a229 := Tryz.isAgg221
  z229 := Tryz.sizeOf221
  v229 := Tryz.zeroValue221 }
open Go.Sort Go.RowKit in
theorem Tryz.sort_Strings (blk off cap : Nat) (ss : List (List UInt8)) (w : World) (hH : Holds encStr w blk off ss.toArray) (hblk : blk < w.heap.size) (hsz : ss.length < 4611686018427387904) :
    Calls Tryz.prog 23 #[.slice (some ⟨blk, off, none⟩) ss.length cap] w fun e w' =>
      e = .returned (.tuple #[]) ∧ ∃ n os, w' = grow (putRow encStr (Sort.ahead w n) blk off (ss.mergeSort fun x y => decide (x ≤ y)).toArray) os := Any.sort_Strings Tryz.lays192 blk off cap ss w hH hblk hsz
def Tryz.lays152_ren : Go.Shelf.Ren := ⟨fun | 152 => 157 | 137 => 173 | 119 => 151 | 224 => 174 | 225 => 175 | 217 => 190 | 266 => 197 | n => n, fun | 9 => 9 | 21 => 21 | 3 => 3 | 4 => 4 | 5 => 5 | 0 => 0 | 46 => 132 | n => n, fun | n => n⟩
theorem Tryz.lays152 : Go.Proofs.Lays.n152 Tryz.prog Tryz.lays152_ren := {
  mixed := by kernel_rfl
  f119 := Tryz.func151.trans (congrArg some (by kernel_rfl))
  f137 := Tryz.func173.trans (congrArg some (by kernel_rfl))
  f152 := Tryz.func157.trans (congrArg some (by kernel_rfl))
  f217 := Tryz.func190.trans (congrArg some (by kernel_rfl))
  f224 := Tryz.func174.trans (congrArg some (by kernel_rfl))
  f225 := Tryz.func175.trans (congrArg some (by kernel_rfl))
  f266 := Tryz.func197.trans (congrArg some (by kernel_rfl))
  t0 := Tryz.underlying0
  a0 := Tryz.isAgg0
  z0 := Tryz.sizeOf0
  v0 := Tryz.zeroValue0
  t3 := Tryz.underlying3
  a3 := Tryz.isAgg3
  z3 := Tryz.sizeOf3
  v3 := Tryz.zeroValue3
  t4 := Tryz.underlying4
  a4 := Tryz.isAgg4
  z4 := Tryz.sizeOf4
  v4 := Tryz.zeroValue4
  t5 := Tryz.underlying5
  a5 := Tryz.isAgg5
  z5 := Tryz.sizeOf5
  v5 := Tryz.zeroValue5
  t9 := Tryz.underlying9
  a9 := Tryz.isAgg9
  z9 := Tryz.sizeOf9
  v9 := Tryz.zeroValue9
  t21 := Tryz.underlying21
  a21 := Tryz.isAgg21
  z21 := Tryz.sizeOf21
  v21 := Tryz.zeroValue21
  t46 := Tryz.underlying132
  a46 := Tryz.isAgg132
  z46 := Tryz.sizeOf132
  v46 := Tryz.zeroValue132 }
open Go.RowKit Go.Lib in
theorem Tryz.strings_IndexRune_ascii (s : ByteArray) (r : Int) (w : World) (h0 : 0 ≤ r) (h1 : r < 128) :
    Calls Tryz.prog 157 #[.string s, .int .i32 r] w fun e w' => e = .returned (.int .i64 (Lib.indexByte s.data.toList r.toNat.toUInt8)) ∧ w' = w := Any.strings_IndexRune_ascii Tryz.lays152 s r w h0 h1
def Tryz.lays151_ren : Go.Shelf.Ren := ⟨fun | 151 => 119 | 152 => 157 | 137 => 173 | 119 => 151 | 224 => 174 | 225 => 175 | 217 => 190 | 266 => 197 | n => n, fun | 9 => 9 | 21 => 21 | 4 => 4 | 3 => 3 | 5 => 5 | 0 => 0 | 46 => 132 | n => n, fun | n => n⟩
theorem Tryz.lays151 : Go.Proofs.Lays.n151 Tryz.prog Tryz.lays151_ren := {
  mixed := by kernel_rfl
  f119 := Tryz.func151.trans (congrArg some (by kernel_rfl))
  f137 := Tryz.func173.trans (congrArg some (by kernel_rfl))
  f151 := Tryz.func119.trans (congrArg some (by kernel_rfl))
  f152 := Tryz.func157.trans (congrArg some (by kernel_rfl))
  f217 := Tryz.func190.trans (congrArg some (by kernel_rfl))
  f224 := Tryz.func174.trans (congrArg some (by kernel_rfl))
  f225 := Tryz.func175.trans (congrArg some (by kernel_rfl))
  f266 := Tryz.func197.trans (congrArg some (by kernel_rfl))
  t0 := Tryz.underlying0
  a0 := Tryz.isAgg0
  z0 := Tryz.sizeOf0
  v0 := Tryz.zeroValue0
  t3 := Tryz.underlying3
  a3 := Tryz.isAgg3
  z3 := Tryz.sizeOf3
  v3 := Tryz.zeroValue3
  t4 := Tryz.underlying4
  a4 := Tryz.isAgg4
  z4 := Tryz.sizeOf4
  v4 := Tryz.zeroValue4
  t5 := Tryz.underlying5
  a5 := Tryz.isAgg5
  z5 := Tryz.sizeOf5
  v5 := Tryz.zeroValue5
  t9 := Tryz.underlying9
  a9 := Tryz.isAgg9
  z9 := Tryz.sizeOf9
  v9 := Tryz.zeroValue9
  t21 := Tryz.underlying21
  a21 := Tryz.isAgg21
  z21 := Tryz.sizeOf21
  v21 := Tryz.zeroValue21
  t46 := Tryz.underlying132
  a46 := Tryz.isAgg132
  z46 := Tryz.sizeOf132
  v46 := Tryz.zeroValue132 }
open Go.RowKit Go.Lib in
theorem Tryz.strings_ContainsRune_ascii (s : ByteArray) (r : Int) (w : World) (h0 : 0 ≤ r) (h1 : r < 128) :
    Calls Tryz.prog 119 #[.string s, .int .i32 r] w fun e w' => e = .returned (.bool (decide (0 ≤ Lib.indexByte s.data.toList r.toNat.toUInt8))) ∧ w' = w := Any.strings_ContainsRune_ascii Tryz.lays151 s r w h0 h1
def Tryz.lays227_ren : Go.Shelf.Ren := ⟨fun | 227 => 82 | n => n, fun | 9 => 9 | 116 => 137 | 4 => 4 | 0 => 0 | 3 => 3 | 5 => 5 | n => n, fun | n => n⟩
theorem Tryz.lays227 : Go.Proofs.Lays.n227 Tryz.prog Tryz.lays227_ren := {
  mixed := by kernel_rfl
  f227 := Tryz.func82.trans (congrArg some (by kernel_rfl))
  t0 := Tryz.underlying0
  a0 := Tryz.isAgg0
  z0 := Tryz.sizeOf0
  v0 := Tryz.zeroValue0
  t3 := Tryz.underlying3
  a3 := Tryz.isAgg3
  z3 := Tryz.sizeOf3
  v3 := Tryz.zeroValue3
  t4 := Tryz.underlying4
  a4 := Tryz.isAgg4
  z4 := Tryz.sizeOf4
  v4 := Tryz.zeroValue4
  t5 := Tryz.underlying5
  a5 := Tryz.isAgg5
  z5 := Tryz.sizeOf5
  v5 := Tryz.zeroValue5
  t9 := Tryz.underlying9
  a9 := Tryz.isAgg9
  z9 := Tryz.sizeOf9
  v9 := Tryz.zeroValue9
  t116 := Tryz.underlying137
  a116 := Tryz.isAgg137
  z116 := Tryz.sizeOf137 }
open Go.RowKit Go.Lib in
theorem Tryz.strings_makeASCIISet (hv116 : ∀ w, (zeroValue 137).run Tryz.prog w = .ok (.agg (Array.replicate 256 (.bool false))) w) (chars : ByteArray) (w : World) (hs : chars.size < 4294967281) (hascii : ∀ (j : Nat) b, chars.data.toList[j]? = some b → b.toNat < 128) :
    Calls Tryz.prog 82 #[.string chars] w fun e w' => e = .returned (.tuple #[.agg (Lib.setCells chars.data.toList), .bool true]) ∧ w' = w.alloc (.cells (Lib.setCells chars.data.toList) 137) := Any.strings_makeASCIISet Tryz.lays227 hv116 (by kernel_rfl) chars w hs hascii
def Tryz.lays228_ren : Go.Shelf.Ren := ⟨fun | 228 => 117 | n => n, fun | 124 => 141 | 5 => 5 | 4 => 4 | 0 => 0 | 116 => 137 | n => n, fun | n => n⟩
theorem Tryz.lays228 : Go.Proofs.Lays.n228 Tryz.prog Tryz.lays228_ren := {
  mixed := by kernel_rfl
  f228 := Tryz.func117.trans (congrArg some (by kernel_rfl))
  t0 := Tryz.underlying0
  a0 := Tryz.isAgg0
  z0 := Tryz.sizeOf0
  v0 := Tryz.zeroValue0
  t4 := Tryz.underlying4
  a4 := Tryz.isAgg4
  z4 := Tryz.sizeOf4
  v4 := Tryz.zeroValue4
  t5 := Tryz.underlying5
  a5 := Tryz.isAgg5
  z5 := Tryz.sizeOf5
  v5 := Tryz.zeroValue5
  t116 := Tryz.underlying137
  a116 := Tryz.isAgg137
  z116 := Tryz.sizeOf137
  t124 := Tryz.underlying141
  a124 := Tryz.isAgg141
  z124 := Tryz.sizeOf141
  v124 := Tryz.zeroValue141 }
open Go.RowKit Go.Lib in
/-- '(as *asciiSet) contains(c)': 'as[c]': the set lies at block b, whole. (LAID: no walk: one application.) -/
theorem Tryz.asciiSet_contains (b : Nat) (x : UInt8) (v : Bool) (w : World) (hc : w.cell? ⟨b, x.toNat, none⟩ = some (.bool v)) :
    Calls Tryz.prog 117 #[.pointer (some ⟨b, 0, none⟩), .int .u8 x.toNat] w fun e w' => e = .returned (.bool v) ∧ w' = w := Any.asciiSet_contains Tryz.lays228 b x v w hc
def Tryz.lays264_ren : Go.Shelf.Ren := ⟨fun | 264 => 229 | n => n, fun | 53 => 38 | 46 => 132 | n => n, fun | n => n⟩
theorem Tryz.lays264 : Go.Proofs.Lays.n264 Tryz.prog Tryz.lays264_ren := {
  mixed := by kernel_rfl
  f264 := Tryz.func229.trans (congrArg some (by kernel_rfl))
  t46 := Tryz.underlying132
  a46 := Tryz.isAgg132
  z46 := Tryz.sizeOf132
  v46 := Tryz.zeroValue132
  t53 := Tryz.underlying38
  a53 := Tryz.isAgg38
  z53 := Tryz.sizeOf38
  v53 := Tryz.zeroValue38 }
open Go.RowKit Go.Lib in
theorem Tryz.bits_Mul64 (x y : Nat) (hx : x < 18446744073709551616) (hy : y < 18446744073709551616) (w : World) :
    Calls Tryz.prog 229 #[.int .u64 x, .int .u64 y] w fun e w' => e = .returned (.tuple #[.int .u64 ((x * y / 18446744073709551616 : Nat) : Int), .int .u64 ((x * y % 18446744073709551616 : Nat) : Int)]) ∧ w' = w := Any.bits_Mul64 Tryz.lays264 x y hx hy w
def Tryz.lays260_ren : Go.Shelf.Ren := ⟨fun | 260 => 147 | n => n, fun | 9 => 9 | 21 => 21 | 3 => 3 | 4 => 4 | 5 => 5 | 119 => 223 | 0 => 0 | 46 => 132 | 139 => 226 | 138 => 225 | n => n, fun | 3 => 5 | 4 => 6 | n => n⟩
theorem Tryz.lays260 : Go.Proofs.Lays.n260 Tryz.prog Tryz.lays260_ren := {
  mixed := by kernel_rfl
  f260 := Tryz.func147.trans (congrArg some (by kernel_rfl))
  t0 := Tryz.underlying0
  a0 := Tryz.isAgg0
  z0 := Tryz.sizeOf0
  v0 := Tryz.zeroValue0
  t3 := Tryz.underlying3
  a3 := Tryz.isAgg3
  z3 := Tryz.sizeOf3
  v3 := Tryz.zeroValue3
  t4 := Tryz.underlying4
  a4 := Tryz.isAgg4
  z4 := Tryz.sizeOf4
  v4 := Tryz.zeroValue4
  t5 := Tryz.underlying5
  a5 := Tryz.isAgg5
  z5 := Tryz.sizeOf5
  v5 := Tryz.zeroValue5
  t9 := Tryz.underlying9
  a9 := Tryz.isAgg9
  z9 := Tryz.sizeOf9
  v9 := Tryz.zeroValue9
  t21 := Tryz.underlying21
  a21 := Tryz.isAgg21
  z21 := Tryz.sizeOf21
  v21 := Tryz.zeroValue21
  t46 := Tryz.underlying132
  a46 := Tryz.isAgg132
  z46 := Tryz.sizeOf132
  v46 := Tryz.zeroValue132
  t119 := Tryz.underlying223
  a119 := Tryz.isAgg223
  z119 := Tryz.sizeOf223
  t138 := Tryz.underlying225
  a138 := Tryz.isAgg225
  z138 := Tryz.sizeOf225
  v138 := Tryz.zeroValue225
  t139 := Tryz.underlying226
  a139 := Tryz.isAgg226
  z139 := Tryz.sizeOf226
  v139 := Tryz.zeroValue226
  g3 := by kernel_rfl
  g4 := by kernel_rfl }
open Go.RowKit Go.Lib in
theorem Tryz.utf8_decodeRuneInStringSlow (s : ByteArray) (w : World) (hT : Lib.Utf8Tabs 5 6 w) :
    Calls Tryz.prog 147 #[.string s] w fun e w' => e = .returned (.tuple #[.int .i32 (Lib.decodeGo s).1, .int .i64 (Lib.decodeGo s).2]) ∧ Below w.heap.size w w' := Any.utf8_decodeRuneInStringSlow Tryz.lays260 s w hT
def Tryz.lays197_ren : Go.Shelf.Ren := ⟨fun | 197 => 109 | 260 => 147 | n => n, fun | 9 => 9 | 21 => 21 | 3 => 3 | 4 => 4 | 5 => 5 | 105 => 164 | 119 => 223 | 0 => 0 | 46 => 132 | 139 => 226 | 138 => 225 | n => n, fun | 3 => 5 | 4 => 6 | n => n⟩
theorem Tryz.lays197 : Go.Proofs.Lays.n197 Tryz.prog Tryz.lays197_ren := {
  mixed := by kernel_rfl
  f197 := Tryz.func109.trans (congrArg some (by kernel_rfl))
  f260 := Tryz.func147.trans (congrArg some (by kernel_rfl))
  t0 := Tryz.underlying0
  a0 := Tryz.isAgg0
  z0 := Tryz.sizeOf0
  v0 := Tryz.zeroValue0
  t3 := Tryz.underlying3
  a3 := Tryz.isAgg3
  z3 := Tryz.sizeOf3
  v3 := Tryz.zeroValue3
  t4 := Tryz.underlying4
  a4 := Tryz.isAgg4
  z4 := Tryz.sizeOf4
  v4 := Tryz.zeroValue4
  t5 := Tryz.underlying5
  a5 := Tryz.isAgg5
  z5 := Tryz.sizeOf5
  v5 := Tryz.zeroValue5
  t9 := Tryz.underlying9
  a9 := Tryz.isAgg9
  z9 := Tryz.sizeOf9
  v9 := Tryz.zeroValue9
  t21 := Tryz.underlying21
  a21 := Tryz.isAgg21
  z21 := Tryz.sizeOf21
  v21 := Tryz.zeroValue21
  t46 := Tryz.underlying132
  a46 := Tryz.isAgg132
  z46 := Tryz.sizeOf132
  v46 := Tryz.zeroValue132
  t105 := Tryz.underlying164
  a105 := Tryz.isAgg164
  z105 := Tryz.sizeOf164
  v105 := Tryz.zeroValue164
  t119 := Tryz.underlying223
  a119 := Tryz.isAgg223
  z119 := Tryz.sizeOf223
  t138 := Tryz.underlying225
  a138 := Tryz.isAgg225
  z138 := Tryz.sizeOf225
  v138 := Tryz.zeroValue225
  t139 := Tryz.underlying226
  a139 := Tryz.isAgg226
  z139 := Tryz.sizeOf226
  v139 := Tryz.zeroValue226
  g3 := by kernel_rfl
  g4 := by kernel_rfl }
open Go.RowKit Go.Lib in
/-- **unicode/utf8.DecodeRuneInString AT EVERY STRING.** (LAID: no walk: one application.) -/
theorem Tryz.utf8_DecodeRuneInString (s : ByteArray) (w : World) (hT : Lib.Utf8Tabs 5 6 w) :
    Calls Tryz.prog 109 #[.string s] w fun e w' => e = .returned (.tuple #[.int .i32 (Lib.decodeGo s).1, .int .i64 (Lib.decodeGo s).2]) ∧ Below w.heap.size w w' := Any.utf8_DecodeRuneInString Tryz.lays197 s w hT
open Go.RowKit Go.Sort in
/-- .. and plain. (LAID: no walk: one application.) -/
theorem Tryz.slices_Sort_string_none (p : Option Addr) (cap : Nat) (w : World) :
    Calls Tryz.prog 49 #[.slice p 0 cap] w fun e w' => e = .returned (.tuple #[]) ∧ w' = w := Any.slices_Sort_string_none Tryz.lays190 p cap w
open Go.RowKit Go.Sort in
/-- .. and plain. (LAID: no walk: one application.) -/
theorem Tryz.sort_Strings_none (p : Option Addr) (cap : Nat) (w : World) :
    Calls Tryz.prog 23 #[.slice p 0 cap] w fun e w' => e = .returned (.tuple #[]) ∧ w' = w := Any.sort_Strings_none Tryz.lays192 p cap w
def Tryz.laysM6_ren : Go.Shelf.Ren := ⟨fun | 6 => 123 | 8 => 76 | 9 => 160 | 19 => 107 | 20 => 108 | 21 => 179 | 22 => 180 | 23 => 181 | 24 => 182 | 25 => 183 | 26 => 184 | 27 => 185 | 28 => 186 | 29 => 187 | 36 => 193 | 31 => 142 | 32 => 143 | 37 => 194 | 38 => 195 | 39 => 196 | 41 => 210 | n => n, fun | 27 => 178 | 29 => 111 | 3 => 3 | 32 => 132 | 26 => 177 | 0 => 0 | 44 => 162 | 46 => 38 | 4 => 4 | 36 => 154 | 35 => 153 | 41 => 159 | 5 => 5 | 9 => 9 | 53 => 198 | 57 => 202 | 63 => 220 | 64 => 221 | n => n, fun | n => n⟩
theorem Tryz.laysM6 : Go.Proofs.SlLaysM.n6 Tryz.prog Tryz.laysM6_ren := {
  mixed := by kernel_rfl
  f6 := ⟨Tryz.f123.name, by decide, Tryz.func123.trans (congrArg some (by kernel_rfl))⟩
  f8 := Tryz.func76.trans (congrArg some (by kernel_rfl))
  f9 := ⟨Tryz.f160.name, by decide, Tryz.func160.trans (congrArg some (by kernel_rfl))⟩
  f19 := Tryz.func107.trans (congrArg some (by kernel_rfl))
  f20 := Tryz.func108.trans (congrArg some (by kernel_rfl))
  f21 := ⟨Tryz.f179.name, by decide, Tryz.func179.trans (congrArg some (by kernel_rfl))⟩
  f22 := ⟨Tryz.f180.name, by decide, Tryz.func180.trans (congrArg some (by kernel_rfl))⟩
  f23 := ⟨Tryz.f181.name, by decide, Tryz.func181.trans (congrArg some (by kernel_rfl))⟩
  f24 := ⟨Tryz.f182.name, by decide, Tryz.func182.trans (congrArg some (by kernel_rfl))⟩
  f25 := ⟨Tryz.f183.name, by decide, Tryz.func183.trans (congrArg some (by kernel_rfl))⟩
  f26 := ⟨Tryz.f184.name, by decide, Tryz.func184.trans (congrArg some (by kernel_rfl))⟩
  f27 := ⟨Tryz.f185.name, by decide, Tryz.func185.trans (congrArg some (by kernel_rfl))⟩
  f28 := ⟨Tryz.f186.name, by decide, Tryz.func186.trans (congrArg some (by kernel_rfl))⟩
  f29 := ⟨Tryz.f187.name, by decide, Tryz.func187.trans (congrArg some (by kernel_rfl))⟩
  f31 := Tryz.func142.trans (congrArg some (by kernel_rfl))
  f32 := Tryz.func143.trans (congrArg some (by kernel_rfl))
  f36 := ⟨Tryz.f193.name, by decide, Tryz.func193.trans (congrArg some (by kernel_rfl))⟩
  f37 := ⟨Tryz.f194.name, by decide, Tryz.func194.trans (congrArg some (by kernel_rfl))⟩
  f38 := ⟨Tryz.f195.name, by decide, Tryz.func195.trans (congrArg some (by kernel_rfl))⟩
  f39 := ⟨Tryz.f196.name, by decide, Tryz.func196.trans (congrArg some (by kernel_rfl))⟩
  f41 := ⟨Tryz.f210.name, by decide, Tryz.func210.trans (congrArg some (by kernel_rfl))⟩
  t0 := Tryz.underlying0
  a0 := Tryz.isAgg0
  z0 := Tryz.sizeOf0
  v0 := Tryz.zeroValue0
  t3 := Tryz.underlying3
  a3 := Tryz.isAgg3
  z3 := Tryz.sizeOf3
  v3 := Tryz.zeroValue3
  t4 := Tryz.underlying4
  a4 := Tryz.isAgg4
  z4 := Tryz.sizeOf4
  v4 := Tryz.zeroValue4
  t5 := Tryz.underlying5
  a5 := Tryz.isAgg5
  z5 := Tryz.sizeOf5
  v5 := Tryz.zeroValue5
  t9 := Tryz.underlying9
  a9 := Tryz.isAgg9
  z9 := Tryz.sizeOf9
  v9 := Tryz.zeroValue9
  t26 := Tryz.underlying177
  a26 := Tryz.isAgg177
  z26 := Tryz.sizeOf177
  v26 := Tryz.zeroValue177
  t27 := Tryz.underlying178
  a27 := Tryz.isAgg178
  z27 := Tryz.sizeOf178
  v27 := Tryz.zeroValue178
  t29 := Tryz.underlying111
  a29 := Tryz.isAgg111
  z29 := Tryz.sizeOf111
  v29 := Tryz.zeroValue111
  t32 := Tryz.underlying132
  a32 := Tryz.isAgg132
  z32 := Tryz.sizeOf132
  v32 := Tryz.zeroValue132
  t35 := Tryz.underlying153
  a35 := Tryz.isAgg153
  z35 := Tryz.sizeOf153
  v35 := Tryz.zeroValue153
  t36 := Tryz.underlying154
  a36 := Tryz.isAgg154
  z36 := Tryz.sizeOf154
  v36 := Tryz.zeroValue154
  t41 := Tryz.underlying159
  a41 := Tryz.isAgg159
  z41 := Tryz.sizeOf159
  v41 := Tryz.zeroValue159
  t44 := Tryz.underlying162
  a44 := Tryz.isAgg162
  z44 := Tryz.sizeOf162
  v44 := Tryz.zeroValue162
  t46 := Tryz.underlying38
  a46 := Tryz.isAgg38
  z46 := Tryz.sizeOf38
  v46 := Tryz.zeroValue38
  t53 := Tryz.underlying198
  a53 := Tryz.isAgg198
  z53 := Tryz.sizeOf198
  v53 := Tryz.zeroValue198
  t57 := Tryz.underlying202
  a57 := Tryz.isAgg202
  z57 := Tryz.sizeOf202
  v57 := Tryz.zeroValue202
  t63 := Tryz.underlying220
  a63 := Tryz.isAgg220
  z63 := Tryz.sizeOf220
  v63 := Tryz.zeroValue220
  t64 := Tryz.underlying221
  a64 := Tryz.isAgg221
  z64 := Tryz.sizeOf221
  v64 := Tryz.zeroValue221 }
open Go.Sort Go.RowKit in
theorem Tryz.slices_Sort_names (blk off cap : Nat) (ss : List (List UInt8)) (w : World) (hH : Holds encStr w blk off ss.toArray) (hblk : blk < w.heap.size) (hsz : ss.length < 4611686018427387904) :
    Calls Tryz.prog 123 #[.slice (some ⟨blk, off, none⟩) ss.length cap] w fun e w' =>
      e = .returned (.tuple #[]) ∧ ∃ n os, w' = grow (putRow encStr (Sort.ahead w n) blk off (ss.mergeSort fun x y => decide (x ≤ y)).toArray) os := AnyM.slices_Sort_string Tryz.laysM6 blk off cap ss w hH hblk hsz
end Go.Proofs
