/-
  DERIVED: THE SHELF's CONTRACTS AT THIS DUMP, IN PLAIN WORDS (tools/lay-plain.mjs out of 'TryzShelf.lean', which tools/lay-shelf.mjs wrote): THE SAME DECLARATIONS UNDER THE SAME NAMES: 'import', 'namespace', 'open', 'def', 'theorem' AND NOTHING ELSE: no command of the shelf's: FOR A HAND-IN. Each laying: the table of numbers ('.._ren') and one theorem, a field a fact of the dump's own or the kernel's comparison; each contract: ONE APPLICATION.
-/
import Derived.Shelf.Strings.Builder1
import Derived.Shelf.Strings.Builder2
import Derived.Shelf.Small.Utf8
import Derived.Shelf.Small.Bits
import Derived.Shelf.Small.Strs
import Derived.Shelf.Strconv.Itoa0
import Derived.Shelf.Strconv.Itoa1
import Derived.Shelf.LaysM
import Derived.Shelf.Strconv.Itoa2
import Derived.Shelf.Strconv.Itoa3
import Derived.Shelf.Strconv.Itoa4
import Derived.Shelf.Strconv.ParseIntEmpty
import Derived.Shelf.Strconv.Clone
import Derived.Shelf.Strconv.SyntaxError
import Derived.Shelf.LaysC
import Derived.Shelf.Strconv.ToError
import Derived.Shelf.Strconv.Lower
import Derived.Shelf.Strconv.ParseUint10
import Derived.Shelf.Strconv.ParseUint10Empty
import Derived.Shelf.Strconv.ParseUint10Any
import Derived.Shelf.Strconv.ParseInt10
import Derived.Shelf.Strconv.RangeError
import Derived.Shelf.Strconv.ToErrorRange
import Derived.Shelf.Strconv.ParseUintEmpty
import Derived.Shelf.Strconv.ParseUint10b64
import Derived.Shelf.Strconv.ParseUint10b32
import Derived.Shelf.Strconv.ParseUint10b16
import Derived.Shelf.Strconv.ParseUint10b8
import Derived.Shelf.Strconv.ParseUint10At
import Derived.Shelf.Strconv.ParseInt10At64
import Derived.Shelf.Strconv.ParseInt10At32
import Derived.Shelf.Strconv.ParseInt10At16
import Derived.Shelf.Strconv.ParseInt10At8
import Derived.Shelf.Strconv.ParseInt10All
import Derived.Shelf.Strconv.ParseIntPublic10
import Derived.Shelf.Strings.Search1
import Derived.Shelf.Unicode.Latin
import Derived.Shelf.Unicode.DecodeSlow
import Derived.Shelf.Unicode.DecodeAny
import Derived.Shelf.Unicode.Is16White
import Derived.Shelf.Unicode.IsSpaceAny
import Derived.Shelf.Unicode.DecodeLast
import Derived.Shelf.Unicode.Is16Any
import Derived.Shelf.Unicode.Is32Any
import Derived.Shelf.Unicode.ExclAny
import Derived.Test.YtclmjmfcggkpaaaGreatDoorProg
namespace Go.Proofs
open Go.Shelf
def Tryz.lays170_ren : Go.Shelf.Ren := ⟨fun | 170 => 127 | n => n, fun | 70 => 170 | 3 => 3 | 0 => 0 | 72 => 172 | 37 => 104 | 5 => 5 | n => n, fun | n => n⟩
theorem Tryz.lays170 : Go.Proofs.Lays.n170 Tryz.prog Tryz.lays170_ren := {
  mixed := by kernel_rfl
  f170 := Tryz.func127.trans (congrArg some (by kernel_rfl))
  t0 := Tryz.underlying0
  a0 := Tryz.isAgg0
  z0 := Tryz.sizeOf0
  v0 := Tryz.zeroValue0
  t3 := Tryz.underlying3
  a3 := Tryz.isAgg3
  z3 := Tryz.sizeOf3
  v3 := Tryz.zeroValue3
  t37 := Tryz.underlying104
  a37 := Tryz.isAgg104
  z37 := Tryz.sizeOf104
  v37 := Tryz.zeroValue104
  t70 := Tryz.underlying170
  a70 := Tryz.isAgg170
  z70 := Tryz.sizeOf170
  v70 := Tryz.zeroValue170
  t72 := Tryz.underlying172
  a72 := Tryz.isAgg172
  z72 := Tryz.sizeOf172
  v72 := Tryz.zeroValue172 }
open Go.RowKit in
/-- (*strings.Builder).Len: "Len returns the number of accumulated bytes; b.Len() == len(b.String()).": the world is as it was. (LAID: no walk: one application.) -/
theorem Tryz.Builder_Len (B b : Nat) (bs : List Value) (w : World) (h : Lib.IsBuilder 172 5 B b bs w) :
    Calls Tryz.prog 127 #[.pointer (some ⟨b, 0, none⟩)] w fun e w' => e = .returned (.int .i64 bs.length) ∧ w' = w := Any.Builder_Len Tryz.lays170 B b bs w h
def Tryz.lays169_ren : Go.Shelf.Ren := ⟨fun | 169 => 130 | n => n, fun | 70 => 170 | 9 => 9 | 0 => 0 | 72 => 172 | 37 => 104 | 127 => 191 | 3 => 3 | 5 => 5 | n => n, fun | n => n⟩
theorem Tryz.lays169 : Go.Proofs.Lays.n169 Tryz.prog Tryz.lays169_ren := {
  mixed := by kernel_rfl
  f169 := Tryz.func130.trans (congrArg some (by kernel_rfl))
  t0 := Tryz.underlying0
  a0 := Tryz.isAgg0
  z0 := Tryz.sizeOf0
  v0 := Tryz.zeroValue0
  t3 := Tryz.underlying3
  a3 := Tryz.isAgg3
  z3 := Tryz.sizeOf3
  v3 := Tryz.zeroValue3
  t9 := Tryz.underlying9
  a9 := Tryz.isAgg9
  z9 := Tryz.sizeOf9
  v9 := Tryz.zeroValue9
  t37 := Tryz.underlying104
  a37 := Tryz.isAgg104
  z37 := Tryz.sizeOf104
  v37 := Tryz.zeroValue104
  t70 := Tryz.underlying170
  a70 := Tryz.isAgg170
  z70 := Tryz.sizeOf170
  v70 := Tryz.zeroValue170
  t72 := Tryz.underlying172
  a72 := Tryz.isAgg172
  z72 := Tryz.sizeOf172
  v72 := Tryz.zeroValue172
  t127 := Tryz.underlying191
  a127 := Tryz.isAgg191
  z127 := Tryz.sizeOf191
  v127 := Tryz.zeroValue191 }
theorem Tryz.Builder_Extra_169 : Builder.Extra Tryz.prog Tryz.lays169_ren := {
  sizeBuilder := by kernel_rfl
  liesBuilder := by kernel_rfl
  t5 := Tryz.underlying5
  a5 := Tryz.isAgg5
  z5 := Tryz.sizeOf5
  v5 := Tryz.zeroValue5
  infoByte := by kernel_rfl
  cellsByte := by kernel_rfl
  sizeByte := by kernel_rfl
  neB5 := by decide }
open Go.RowKit in
/-- (*strings.Builder).String: "String returns the accumulated string.": OF A BUILDER THAT HOLDS AT LEAST ONE BYTE. ✋ THE MODEL FREEZES THOSE BYTES IN THE BUFFER (unsafe.String): a later write INTO them ends the model's run without an answer; a later append BEHIND them goes on. The statement's order of evaluation is drawn: one draw. (LAID: no walk: one application.) -/
theorem Tryz.Builder_String (B b : Nat) (l : List UInt8) (w : World) (h : Lib.IsBuilder 172 5 B b (Lib.byteCells l) w) (h0 : l ≠ []) :
    Calls Tryz.prog 130 #[.pointer (some ⟨b, 0, none⟩)] w fun e w' => e = .returned (.string ⟨l.toArray⟩) ∧ Below B w w' := Any.Builder_String Tryz.lays169 Tryz.Builder_Extra_169 B b l w h h0
open Go.RowKit in
/-- (*strings.Builder).String OF A BUILDER THAT HOLDS NO BYTE: the empty string. (Its buffer is nil, or a row of which it has taken nothing yet; where that row has NO capacity the model lays one new block for unsafe.SliceData's 'some address'.) One draw. (LAID: no walk: one application.) -/
theorem Tryz.Builder_String_empty (B b : Nat) (w : World) (h : Lib.IsBuilder 172 5 B b [] w) (hBw : B ≤ w.heap.size) :
    Calls Tryz.prog 130 #[.pointer (some ⟨b, 0, none⟩)] w fun e w' => e = .returned (.string ⟨#[]⟩) ∧ Below B w w' := Any.Builder_String_empty Tryz.lays169 Tryz.Builder_Extra_169 B b w h hBw
open Go.RowKit in
/-- (*strings.Builder).String: "String returns the accumulated string.": WHATEVER THE BUILDER HOLDS. (LAID: no walk: one application.) -/
theorem Tryz.Builder_String_any (B b : Nat) (l : List UInt8) (w : World) (h : Lib.IsBuilder 172 5 B b (Lib.byteCells l) w) (hBw : B ≤ w.heap.size) :
    Calls Tryz.prog 130 #[.pointer (some ⟨b, 0, none⟩)] w fun e w' => e = .returned (.string ⟨l.toArray⟩) ∧ Below B w w' := Any.Builder_String_any Tryz.lays169 Tryz.Builder_Extra_169 B b l w h hBw
def Tryz.lays241_ren : Go.Shelf.Ren := ⟨fun | 241 => 156 | 277 => 189 | n => n, fun | 70 => 170 | 3 => 3 | 0 => 0 | 72 => 172 | 37 => 104 | 5 => 5 | n => n, fun | n => n⟩
theorem Tryz.lays241 : Go.Proofs.Lays.n241 Tryz.prog Tryz.lays241_ren := {
  mixed := by kernel_rfl
  f241 := Tryz.func156.trans (congrArg some (by kernel_rfl))
  f277 := Tryz.func189.trans (congrArg some (by kernel_rfl))
  t0 := Tryz.underlying0
  a0 := Tryz.isAgg0
  z0 := Tryz.sizeOf0
  v0 := Tryz.zeroValue0
  t3 := Tryz.underlying3
  a3 := Tryz.isAgg3
  z3 := Tryz.sizeOf3
  v3 := Tryz.zeroValue3
  t37 := Tryz.underlying104
  a37 := Tryz.isAgg104
  z37 := Tryz.sizeOf104
  v37 := Tryz.zeroValue104
  t70 := Tryz.underlying170
  a70 := Tryz.isAgg170
  z70 := Tryz.sizeOf170
  v70 := Tryz.zeroValue170
  t72 := Tryz.underlying172
  a72 := Tryz.isAgg172
  z72 := Tryz.sizeOf172
  v72 := Tryz.zeroValue172 }
theorem Tryz.Builder_Extra_241 : Builder.Extra Tryz.prog Tryz.lays241_ren := {
  sizeBuilder := by kernel_rfl
  liesBuilder := by kernel_rfl
  t5 := Tryz.underlying5
  a5 := Tryz.isAgg5
  z5 := Tryz.sizeOf5
  v5 := Tryz.zeroValue5
  infoByte := by kernel_rfl
  cellsByte := by kernel_rfl
  sizeByte := by kernel_rfl
  neB5 := by decide }
open Go.RowKit in
/-- (*strings.Builder).grow (no doc but "grow copies the buffer to a new, larger buffer so that there are at least n bytes of capacity beyond len(b.buf)."): AT A BUILDER WITHOUT A BUFFER: a new row of whatever bytes for its buffer, none of them its own yet. Three draws. (LAID: no walk: one application.) -/
theorem Tryz.Builder_grow_fresh (B b n : Nat) (w : World) (hB : B ≤ b) (hbk : w.heap[b]? = some (.cells #[.pointer (some ⟨b, 0, none⟩), .slice none 0 0] 172 (0, 0))) (hBw : B ≤ w.heap.size) (hn : n ≤ 281474976710656) :
    Calls Tryz.prog 156 #[.pointer (some ⟨b, 0, none⟩), .int .i64 n] w fun e w' => e = .returned (.tuple #[]) ∧ (Lib.BuilderAt 172 5 B b (.pointer (some ⟨b, 0, none⟩)) [] w' ∧ Below B w w') := Any.Builder_grow_fresh Tryz.lays241 Tryz.Builder_Extra_241 B b n w hB hbk hBw hn
def Tryz.lays165_ren : Go.Shelf.Ren := ⟨fun | 165 => 136 | 240 => 150 | 241 => 156 | 276 => 184 | 277 => 189 | n => n, fun | 70 => 170 | 3 => 3 | 0 => 0 | 4 => 4 | 9 => 9 | 20 => 20 | 72 => 172 | 37 => 104 | 164 => 221 | 5 => 5 | n => n, fun | n => n⟩
theorem Tryz.lays165 : Go.Proofs.Lays.n165 Tryz.prog Tryz.lays165_ren := {
  mixed := by kernel_rfl
  f165 := Tryz.func136.trans (congrArg some (by kernel_rfl))
  f240 := Tryz.func150.trans (congrArg some (by kernel_rfl))
  f241 := Tryz.func156.trans (congrArg some (by kernel_rfl))
  f276 := Tryz.func184.trans (congrArg some (by kernel_rfl))
  f277 := Tryz.func189.trans (congrArg some (by kernel_rfl))
  t0 := Tryz.underlying0
  a0 := Tryz.isAgg0
  z0 := Tryz.sizeOf0
  v0 := Tryz.zeroValue0
  t3 := Tryz.underlying3
  a3 := Tryz.isAgg3
  z3 := Tryz.sizeOf3
  v3 := Tryz.zeroValue3
  t4 := Tryz.underlying4
  a4 := Tryz.isAgg4
  z4 := Tryz.sizeOf4
  v4 := Tryz.zeroValue4
  t9 := Tryz.underlying9
  a9 := Tryz.isAgg9
  z9 := Tryz.sizeOf9
  v9 := Tryz.zeroValue9
  t20 := Tryz.underlying20
  a20 := Tryz.isAgg20
  z20 := Tryz.sizeOf20
  v20 := Tryz.zeroValue20
  t37 := Tryz.underlying104
  a37 := Tryz.isAgg104
  z37 := Tryz.sizeOf104
  v37 := Tryz.zeroValue104
  t70 := Tryz.underlying170
  a70 := Tryz.isAgg170
  z70 := Tryz.sizeOf170
  v70 := Tryz.zeroValue170
  t72 := Tryz.underlying172
  a72 := Tryz.isAgg172
  z72 := Tryz.sizeOf172
  v72 := Tryz.zeroValue172
  t164 := Tryz.underlying221
  a164 := Tryz.isAgg221
  z164 := Tryz.sizeOf221
  v164 := Tryz.zeroValue221 }
theorem Tryz.Builder_Extra_165 : Builder.Extra Tryz.prog Tryz.lays165_ren := {
  sizeBuilder := by kernel_rfl
  liesBuilder := by kernel_rfl
  t5 := Tryz.underlying5
  a5 := Tryz.isAgg5
  z5 := Tryz.sizeOf5
  v5 := Tryz.zeroValue5
  infoByte := by kernel_rfl
  cellsByte := by kernel_rfl
  sizeByte := by kernel_rfl
  neB5 := by decide }
open Go.RowKit in
/-- (*strings.Builder).Grow AT A BUILDER THAT HAS NOT BEEN WRITTEN ('var b strings.Builder; b.Grow(n)'): "Grow grows b's capacity, if necessary, to guarantee space for another n bytes.": it holds no byte behind it as before it. (LAID: no walk: one application.) -/
theorem Tryz.Builder_Grow_fresh (B b n : Nat) (w : World) (hB : B ≤ b) (hbk : w.heap[b]? = some (.cells #[.pointer none, .slice none 0 0] 172 (0, 0))) (hBw : B ≤ w.heap.size) (hn : n ≤ 281474976710656) :
    Calls Tryz.prog 136 #[.pointer (some ⟨b, 0, none⟩), .int .i64 n] w fun e w' => e = .returned (.tuple #[]) ∧ (Lib.BuilderAt 172 5 B b (.pointer (some ⟨b, 0, none⟩)) [] w' ∧ Below B w w') := Any.Builder_Grow_fresh Tryz.lays165 Tryz.Builder_Extra_165 B b n w hB hbk hBw hn
def Tryz.lays120_ren : Go.Shelf.Ren := ⟨fun | 120 => 213 | n => n, fun | 5 => 5 | 4 => 4 | n => n, fun | n => n⟩
theorem Tryz.lays120 : Go.Proofs.Lays.n120 Tryz.prog Tryz.lays120_ren := {
  mixed := by kernel_rfl
  f120 := Tryz.func213.trans (congrArg some (by kernel_rfl))
  t4 := Tryz.underlying4
  a4 := Tryz.isAgg4
  z4 := Tryz.sizeOf4
  v4 := Tryz.zeroValue4
  t5 := Tryz.underlying5
  a5 := Tryz.isAgg5
  z5 := Tryz.sizeOf5
  v5 := Tryz.zeroValue5 }
/-- utf8.RuneStart: "RuneStart reports whether the byte could be the first byte of an encoded, possibly invalid rune. Second and subsequent bytes always have the top two bits set to 10.": IT RETURNS 'Lib.runeStart b'; the world is as it was. ('h0', 'h1': b is a byte: a caller has it of every byte that it was handed.) (LAID: no walk: one application.) -/
theorem Tryz.utf8_RuneStart (b : Int) (w : World) (h0 : 0 ≤ b) (h1 : b < 256) :
    Calls Tryz.prog 213 #[.int .u8 b] w fun e w' => e = .returned (.bool (Lib.runeStart b)) ∧ w' = w := Any.utf8_RuneStart Tryz.lays120 b w h0 h1
def Tryz.lays128_ren : Go.Shelf.Ren := ⟨fun | 128 => 182 | n => n, fun | 51 => 205 | 3 => 3 | 4 => 4 | 46 => 106 | 5 => 5 | 9 => 9 | n => n, fun | n => n⟩
theorem Tryz.lays128 : Go.Proofs.Lays.n128 Tryz.prog Tryz.lays128_ren := {
  mixed := by kernel_rfl
  f128 := Tryz.func182.trans (congrArg some (by kernel_rfl))
  t3 := Tryz.underlying3
  a3 := Tryz.isAgg3
  z3 := Tryz.sizeOf3
  v3 := Tryz.zeroValue3
  t4 := Tryz.underlying4
  a4 := Tryz.isAgg4
  z4 := Tryz.sizeOf4
  v4 := Tryz.zeroValue4
  t5 := Tryz.underlying5
  a5 := Tryz.isAgg5
  z5 := Tryz.sizeOf5
  v5 := Tryz.zeroValue5
  t9 := Tryz.underlying9
  a9 := Tryz.isAgg9
  z9 := Tryz.sizeOf9
  v9 := Tryz.zeroValue9
  t46 := Tryz.underlying106
  a46 := Tryz.isAgg106
  z46 := Tryz.sizeOf106
  v46 := Tryz.zeroValue106
  t51 := Tryz.underlying205
  a51 := Tryz.isAgg205
  z51 := Tryz.sizeOf205
  v51 := Tryz.zeroValue205 }
/-- bits.Len32: "Len32 returns the minimum number of bits required to represent x; the result is 0 for x == 0.": IT RETURNS 'Lib.bitLen x'; the world is as it was. ('h0', 'h1': x is a uint32.) (LAID: no walk: one application.) -/
theorem Tryz.bits_Len32 (x : Int) (w : World) (h0 : 0 ≤ x) (h1 : x ≤ 4294967295) :
    Calls Tryz.prog 182 #[.int .u32 x] w fun e w' => e = .returned (.int .i64 (Lib.bitLen x.toNat)) ∧ w' = w := Any.bits_Len32 Tryz.lays128 x w h0 h1
def Tryz.lays125_ren : Go.Shelf.Ren := ⟨fun | 125 => 149 | 128 => 182 | 129 => 183 | n => n, fun | 46 => 106 | 3 => 3 | 51 => 205 | 53 => 111 | 4 => 4 | 5 => 5 | 9 => 9 | n => n, fun | n => n⟩
theorem Tryz.lays125 : Go.Proofs.Lays.n125 Tryz.prog Tryz.lays125_ren := {
  mixed := by kernel_rfl
  f125 := Tryz.func149.trans (congrArg some (by kernel_rfl))
  f128 := Tryz.func182.trans (congrArg some (by kernel_rfl))
  f129 := Tryz.func183.trans (congrArg some (by kernel_rfl))
  t3 := Tryz.underlying3
  a3 := Tryz.isAgg3
  z3 := Tryz.sizeOf3
  v3 := Tryz.zeroValue3
  t4 := Tryz.underlying4
  a4 := Tryz.isAgg4
  z4 := Tryz.sizeOf4
  v4 := Tryz.zeroValue4
  t5 := Tryz.underlying5
  a5 := Tryz.isAgg5
  z5 := Tryz.sizeOf5
  v5 := Tryz.zeroValue5
  t9 := Tryz.underlying9
  a9 := Tryz.isAgg9
  z9 := Tryz.sizeOf9
  v9 := Tryz.zeroValue9
  t46 := Tryz.underlying106
  a46 := Tryz.isAgg106
  z46 := Tryz.sizeOf106
  v46 := Tryz.zeroValue106
  t51 := Tryz.underlying205
  a51 := Tryz.isAgg205
  z51 := Tryz.sizeOf205
  v51 := Tryz.zeroValue205
  t53 := Tryz.underlying111
  a53 := Tryz.isAgg111
  z53 := Tryz.sizeOf111
  v53 := Tryz.zeroValue111 }
/-- bits.Len: "Len returns the minimum number of bits required to represent x; the result is 0 for x == 0.": IT RETURNS 'Lib.bitLen x'; the world is as it was. (A uint has 64 bits in the model.) ITS CALLEE bits.Len64 IS MET BY ITS OWN CONTRACT OFF THE SHELF (lay that first). (LAID: no walk: one application.) -/
theorem Tryz.bits_Len (x : Int) (w : World) (h0 : 0 ≤ x) (h1 : x ≤ 18446744073709551615) :
    Calls Tryz.prog 149 #[.int .u64 x] w fun e w' => e = .returned (.int .i64 (Lib.bitLen x.toNat)) ∧ w' = w := Any.bits_Len Tryz.lays125 x w h0 h1
def Tryz.lays137_ren : Go.Shelf.Ren := ⟨fun | 137 => 96 | 217 => 137 | 266 => 157 | n => n, fun | 9 => 9 | 5 => 5 | 3 => 3 | n => n, fun | n => n⟩
theorem Tryz.lays137 : Go.Proofs.Lays.n137 Tryz.prog Tryz.lays137_ren := {
  mixed := by kernel_rfl
  f137 := Tryz.func96.trans (congrArg some (by kernel_rfl))
  f217 := Tryz.func137.trans (congrArg some (by kernel_rfl))
  f266 := Tryz.func157.trans (congrArg some (by kernel_rfl))
  t3 := Tryz.underlying3
  a3 := Tryz.isAgg3
  z3 := Tryz.sizeOf3
  v3 := Tryz.zeroValue3
  t5 := Tryz.underlying5
  a5 := Tryz.isAgg5
  z5 := Tryz.sizeOf5
  v5 := Tryz.zeroValue5
  t9 := Tryz.underlying9
  a9 := Tryz.isAgg9
  z9 := Tryz.sizeOf9
  v9 := Tryz.zeroValue9 }
open Go.RowKit in
/-- strings.IndexByte: "IndexByte returns the index of the first instance of c in s, or -1 if c is not present in s.": IT RETURNS 'Lib.indexByte s c'; the world is as it was. (LAID: no walk: one application.) -/
theorem Tryz.strings_IndexByte (s : ByteArray) (c : Int) (w : World) :
    Calls Tryz.prog 96 #[.string s, .int .u8 c] w fun e w' => e = .returned (.int .i64 (Lib.indexByte s.data.toList c.toNat.toUInt8)) ∧ w' = w := Any.strings_IndexByte Tryz.lays137 s c w
def Tryz.lays129_ren : Go.Shelf.Ren := ⟨fun | 129 => 183 | n => n, fun | 53 => 111 | 3 => 3 | 4 => 4 | 46 => 106 | 5 => 5 | 9 => 9 | n => n, fun | n => n⟩
theorem Tryz.lays129 : Go.Proofs.Lays.n129 Tryz.prog Tryz.lays129_ren := {
  mixed := by kernel_rfl
  f129 := Tryz.func183.trans (congrArg some (by kernel_rfl))
  t3 := Tryz.underlying3
  a3 := Tryz.isAgg3
  z3 := Tryz.sizeOf3
  v3 := Tryz.zeroValue3
  t4 := Tryz.underlying4
  a4 := Tryz.isAgg4
  z4 := Tryz.sizeOf4
  v4 := Tryz.zeroValue4
  t5 := Tryz.underlying5
  a5 := Tryz.isAgg5
  z5 := Tryz.sizeOf5
  v5 := Tryz.zeroValue5
  t9 := Tryz.underlying9
  a9 := Tryz.isAgg9
  z9 := Tryz.sizeOf9
  v9 := Tryz.zeroValue9
  t46 := Tryz.underlying106
  a46 := Tryz.isAgg106
  z46 := Tryz.sizeOf106
  v46 := Tryz.zeroValue106
  t53 := Tryz.underlying111
  a53 := Tryz.isAgg111
  z53 := Tryz.sizeOf111
  v53 := Tryz.zeroValue111 }
/-- bits.Len64: "Len64 returns the minimum number of bits required to represent x; the result is 0 for x == 0.": IT RETURNS 'Lib.bitLen x'; the world is as it was. ('h0', 'h1': x is a uint64.) (LAID: no walk: one application.) -/
theorem Tryz.bits_Len64 (x : Int) (w : World) (h0 : 0 ≤ x) (h1 : x ≤ 18446744073709551615) :
    Calls Tryz.prog 183 #[.int .u64 x] w fun e w' => e = .returned (.int .i64 (Lib.bitLen x.toNat)) ∧ w' = w := Any.bits_Len64 Tryz.lays129 x w h0 h1
def Tryz.lays317_ren : Go.Shelf.Ren := ⟨fun | 317 => 209 | n => n, fun | 3 => 3 | 46 => 106 | n => n, fun | n => n⟩
theorem Tryz.lays317 : Go.Proofs.Lays.n317 Tryz.prog Tryz.lays317_ren := {
  mixed := by kernel_rfl
  f317 := Tryz.func209.trans (congrArg some (by kernel_rfl))
  t3 := Tryz.underlying3
  a3 := Tryz.isAgg3
  z3 := Tryz.sizeOf3
  v3 := Tryz.zeroValue3
  t46 := Tryz.underlying106
  a46 := Tryz.isAgg106
  z46 := Tryz.sizeOf106
  v46 := Tryz.zeroValue106 }
open Go.Lib in
/-- internal/strconv.log10Pow2: "log10Pow2(x) returns ⌊log₁₀ 2**x⌋ = ⌊x * log₁₀ 2⌋.": '(x * 78913) >> 18', at an x up to 64 (a length in bits). The world is as it was. (LAID: no walk: one application.) -/
theorem Tryz.internal_strconv_log10Pow2 (x : Nat) (h : x ≤ 64) (w : World) :
    Calls Tryz.prog 209 #[.int .i64 x] w fun e w' => e = .returned (.int .i64 (Lib.l10 x)) ∧ w' = w := Any.internal_strconv_log10Pow2 Tryz.lays317 x h w
def Tryz.lays318_ren : Go.Shelf.Ren := ⟨fun | 318 => 210 | n => n, fun | 3 => 3 | 4 => 4 | n => n, fun | n => n⟩
theorem Tryz.lays318 : Go.Proofs.Lays.n318 Tryz.prog Tryz.lays318_ren := {
  mixed := by kernel_rfl
  f318 := Tryz.func210.trans (congrArg some (by kernel_rfl))
  t3 := Tryz.underlying3
  a3 := Tryz.isAgg3
  z3 := Tryz.sizeOf3
  v3 := Tryz.zeroValue3
  t4 := Tryz.underlying4
  a4 := Tryz.isAgg4
  z4 := Tryz.sizeOf4
  v4 := Tryz.zeroValue4 }
open Go.Lib in
/-- internal/strconv.bool2: "bool2 converts b to an integer: 1 for true, 0 for false." The world is as it was. (LAID: no walk: one application.) -/
theorem Tryz.internal_strconv_bool2_int (b : Bool) (w : World) :
    Calls Tryz.prog 210 #[.bool b] w fun e w' => e = .returned (.int .i64 (if b then 1 else 0)) ∧ w' = w := Any.internal_strconv_bool2_int Tryz.lays318 b w
def Tryz.lays283_ren : Go.Shelf.Ren := ⟨fun | 283 => 193 | n => n, fun | 3 => 3 | 9 => 9 | 4 => 4 | n => n, fun | n => n⟩
theorem Tryz.lays283 : Go.Proofs.Lays.n283 Tryz.prog Tryz.lays283_ren := {
  mixed := by kernel_rfl
  f283 := Tryz.func193.trans (congrArg some (by kernel_rfl))
  t3 := Tryz.underlying3
  a3 := Tryz.isAgg3
  z3 := Tryz.sizeOf3
  v3 := Tryz.zeroValue3
  t4 := Tryz.underlying4
  a4 := Tryz.isAgg4
  z4 := Tryz.sizeOf4
  v4 := Tryz.zeroValue4
  t9 := Tryz.underlying9
  a9 := Tryz.isAgg9
  z9 := Tryz.sizeOf9
  v9 := Tryz.zeroValue9 }
open Go.Lib in
/-- internal/strconv.small: "small returns the string for an i with 0 <= i < nSmalls.": i's decimal numeral. The world is as it was. (LAID: no walk: one application.) -/
theorem Tryz.internal_strconv_small (i : Nat) (h : i < 100) (w : World) :
    Calls Tryz.prog 193 #[.int .i64 i] w fun e w' => e = .returned (.string ⟨(Lib.decDigits i).toArray⟩) ∧ w' = w := Any.internal_strconv_small Tryz.lays283 i h w
def Tryz.laysM284_ren : Go.Shelf.Ren := ⟨fun | 284 => 194 | 129 => 183 | 317 => 209 | 318 => 210 | n => n, fun | 53 => 111 | 3 => 3 | 212 => 254 | 0 => 0 | 4 => 4 | 46 => 106 | 5 => 5 | 9 => 9 | n => n, fun | 17 => 6 | n => n⟩
theorem Tryz.laysM284 : Go.Proofs.LaysM.n284 Tryz.prog Tryz.laysM284_ren := {
  mixed := by kernel_rfl
  f129 := Tryz.func183.trans (congrArg some (by kernel_rfl))
  f284 := Tryz.func194.trans (congrArg some (by kernel_rfl))
  f317 := Tryz.func209.trans (congrArg some (by kernel_rfl))
  f318 := Tryz.func210.trans (congrArg some (by kernel_rfl))
  t0 := Tryz.underlying0
  a0 := Tryz.isAgg0
  z0 := Tryz.sizeOf0
  v0 := Tryz.zeroValue0
  t3 := Tryz.underlying3
  a3 := Tryz.isAgg3
  z3 := Tryz.sizeOf3
  v3 := Tryz.zeroValue3
  t4 := Tryz.underlying4
  a4 := Tryz.isAgg4
  z4 := Tryz.sizeOf4
  v4 := Tryz.zeroValue4
  t5 := Tryz.underlying5
  a5 := Tryz.isAgg5
  z5 := Tryz.sizeOf5
  v5 := Tryz.zeroValue5
  t9 := Tryz.underlying9
  a9 := Tryz.isAgg9
  z9 := Tryz.sizeOf9
  v9 := Tryz.zeroValue9
  t46 := Tryz.underlying106
  a46 := Tryz.isAgg106
  z46 := Tryz.sizeOf106
  v46 := Tryz.zeroValue106
  t53 := Tryz.underlying111
  a53 := Tryz.isAgg111
  z53 := Tryz.sizeOf111
  v53 := Tryz.zeroValue111
  t212 := Tryz.underlying254
  a212 := Tryz.isAgg254
  z212 := Tryz.sizeOf254
  v212 := Tryz.zeroValue254
  g17 := by kernel_rfl
  i0 := by kernel_rfl
  i3 := by kernel_rfl
  i4 := by kernel_rfl
  i5 := by kernel_rfl
  i9 := by kernel_rfl
  i46 := by kernel_rfl
  i53 := by kernel_rfl
  i212 := by kernel_rfl
  m17 := by kernel_rfl }
open Go.Lib in
/-- internal/strconv.numDigits, at a d that is not 0: THE NUMBER OF d's DECIMAL DIGITS. The world is as it was. (LAID: no walk: one application.) -/
theorem Tryz.internal_strconv_numDigits (u : Nat) (h1 : 1 ≤ u) (h2 : u < 18446744073709551616) (w : World) (htab : Lib.TabIs Tryz.prog w "internal/strconv.uint64pow10" .u64 Lib.pow10Tab) :
    Calls Tryz.prog 194 #[.int .u64 u] w fun e w' => e = .returned (.int .i64 (Lib.nDigits u)) ∧ w' = w := Any.internal_strconv_numDigits Tryz.laysM284 u h1 h2 w htab
def Tryz.lays285_ren : Go.Shelf.Ren := ⟨fun | 285 => 195 | n => n, fun | 37 => 104 | 53 => 111 | 3 => 3 | 4 => 4 | 51 => 205 | 9 => 9 | 5 => 5 | 0 => 0 | n => n, fun | n => n⟩
theorem Tryz.lays285 : Go.Proofs.Lays.n285 Tryz.prog Tryz.lays285_ren := {
  mixed := by kernel_rfl
  f285 := Tryz.func195.trans (congrArg some (by kernel_rfl))
  t0 := Tryz.underlying0
  a0 := Tryz.isAgg0
  z0 := Tryz.sizeOf0
  v0 := Tryz.zeroValue0
  t3 := Tryz.underlying3
  a3 := Tryz.isAgg3
  z3 := Tryz.sizeOf3
  v3 := Tryz.zeroValue3
  t4 := Tryz.underlying4
  a4 := Tryz.isAgg4
  z4 := Tryz.sizeOf4
  v4 := Tryz.zeroValue4
  t5 := Tryz.underlying5
  a5 := Tryz.isAgg5
  z5 := Tryz.sizeOf5
  v5 := Tryz.zeroValue5
  t9 := Tryz.underlying9
  a9 := Tryz.isAgg9
  z9 := Tryz.sizeOf9
  v9 := Tryz.zeroValue9
  t37 := Tryz.underlying104
  a37 := Tryz.isAgg104
  z37 := Tryz.sizeOf104
  v37 := Tryz.zeroValue104
  t51 := Tryz.underlying205
  a51 := Tryz.isAgg205
  z51 := Tryz.sizeOf205
  v51 := Tryz.zeroValue205
  t53 := Tryz.underlying111
  a53 := Tryz.isAgg111
  z53 := Tryz.sizeOf111
  v53 := Tryz.zeroValue111 }
open Go.RowKit Go.Sort Go.Lib in
/-- internal/strconv.formatBase10: "formatBase10 formats the decimal representation of u into a. The caller is responsible for ensuring that a is big enough to hold u. If a is too big, leading zeros will be filled in as needed.": THE ROW HOLDS u's DIGITS ('FmtInv .. 0 ..': every place t holds 'dg u (len - 1 - t)'); all else is as it was but for the count of draws. (LAID: no walk: one application.) -/
theorem Tryz.internal_strconv_formatBase10 (blk off cap : Nat) (u : Nat) (d : Array UInt8) (w : World) (hH : Holds (fun (b : UInt8) => Value.int .u8 (b.toNat : Int)) w blk off d) (hu : u < 10 ^ d.size) (hu64 : u < 18446744073709551616) (hsz : d.size < 4611686018427387904) :
    Calls Tryz.prog 195 #[.slice (some ⟨blk, off, none⟩) d.size cap, .int .u64 u] w fun e w' =>
      e = .returned (.tuple #[]) ∧ ∃ (n v' : Nat) (dk : Array UInt8), w' = (putRow (fun (b : UInt8) => Value.int .u8 (b.toNat : Int)) w blk off dk).drewN n ∧ FmtInv d.size u 0 v' dk := Any.internal_strconv_formatBase10 Tryz.lays285 blk off cap u d w hH hu hu64 hsz
def Tryz.laysM246_ren : Go.Shelf.Ren := ⟨fun | 246 => 166 | 283 => 193 | 284 => 194 | 285 => 195 | 286 => 196 | 129 => 183 | 317 => 209 | 318 => 210 | 319 => 211 | 320 => 212 | 337 => 215 | 338 => 216 | n => n, fun | 2 => 2 | 3 => 3 | 9 => 9 | 4 => 4 | 171 => 231 | 0 => 0 | 53 => 111 | 37 => 104 | 5 => 5 | 173 => 233 | 212 => 254 | 51 => 205 | 20 => 20 | 213 => 255 | 46 => 106 | 232 => 264 | 233 => 180 | n => n, fun | 17 => 6 | 18 => 9 | 19 => 10 | n => n⟩
theorem Tryz.laysM246 : Go.Proofs.LaysM.n246 Tryz.prog Tryz.laysM246_ren := {
  mixed := by kernel_rfl
  f129 := Tryz.func183.trans (congrArg some (by kernel_rfl))
  f246 := Tryz.func166.trans (congrArg some (by kernel_rfl))
  f283 := Tryz.func193.trans (congrArg some (by kernel_rfl))
  f284 := Tryz.func194.trans (congrArg some (by kernel_rfl))
  f285 := Tryz.func195.trans (congrArg some (by kernel_rfl))
  f286 := Tryz.func196.trans (congrArg some (by kernel_rfl))
  f317 := Tryz.func209.trans (congrArg some (by kernel_rfl))
  f318 := Tryz.func210.trans (congrArg some (by kernel_rfl))
  f319 := Tryz.func211.trans (congrArg some (by kernel_rfl))
  f320 := Tryz.func212.trans (congrArg some (by kernel_rfl))
  f337 := Tryz.func215.trans (congrArg some (by kernel_rfl))
  f338 := Tryz.func216.trans (congrArg some (by kernel_rfl))
  t0 := Tryz.underlying0
  a0 := Tryz.isAgg0
  z0 := Tryz.sizeOf0
  v0 := Tryz.zeroValue0
  t2 := Tryz.underlying2
  a2 := Tryz.isAgg2
  z2 := Tryz.sizeOf2
  v2 := Tryz.zeroValue2
  t3 := Tryz.underlying3
  a3 := Tryz.isAgg3
  z3 := Tryz.sizeOf3
  v3 := Tryz.zeroValue3
  t4 := Tryz.underlying4
  a4 := Tryz.isAgg4
  z4 := Tryz.sizeOf4
  v4 := Tryz.zeroValue4
  t5 := Tryz.underlying5
  a5 := Tryz.isAgg5
  z5 := Tryz.sizeOf5
  v5 := Tryz.zeroValue5
  t9 := Tryz.underlying9
  a9 := Tryz.isAgg9
  z9 := Tryz.sizeOf9
  v9 := Tryz.zeroValue9
  t20 := Tryz.underlying20
  a20 := Tryz.isAgg20
  z20 := Tryz.sizeOf20
  v20 := Tryz.zeroValue20
  t37 := Tryz.underlying104
  a37 := Tryz.isAgg104
  z37 := Tryz.sizeOf104
  v37 := Tryz.zeroValue104
  t46 := Tryz.underlying106
  a46 := Tryz.isAgg106
  z46 := Tryz.sizeOf106
  v46 := Tryz.zeroValue106
  t51 := Tryz.underlying205
  a51 := Tryz.isAgg205
  z51 := Tryz.sizeOf205
  v51 := Tryz.zeroValue205
  t53 := Tryz.underlying111
  a53 := Tryz.isAgg111
  z53 := Tryz.sizeOf111
  v53 := Tryz.zeroValue111
  t171 := Tryz.underlying231
  a171 := Tryz.isAgg231
  z171 := Tryz.sizeOf231
  v171 := Tryz.zeroValue231
  t173 := Tryz.underlying233
  a173 := Tryz.isAgg233
  z173 := Tryz.sizeOf233
  v173 := Tryz.zeroValue233
  t212 := Tryz.underlying254
  a212 := Tryz.isAgg254
  z212 := Tryz.sizeOf254
  v212 := Tryz.zeroValue254
  t213 := Tryz.underlying255
  a213 := Tryz.isAgg255
  z213 := Tryz.sizeOf255
  t232 := Tryz.underlying264
  a232 := Tryz.isAgg264
  z232 := Tryz.sizeOf264
  v232 := Tryz.zeroValue264
  t233 := Tryz.underlying180
  a233 := Tryz.isAgg180
  z233 := Tryz.sizeOf180
  v233 := Tryz.zeroValue180
  g17 := by kernel_rfl
  g18 := by kernel_rfl
  g19 := by kernel_rfl
  i0 := by kernel_rfl
  i2 := by kernel_rfl
  i3 := by kernel_rfl
  i4 := by kernel_rfl
  i5 := by kernel_rfl
  i9 := by kernel_rfl
  i20 := by kernel_rfl
  i37 := by kernel_rfl
  i46 := by kernel_rfl
  i51 := by kernel_rfl
  i53 := by kernel_rfl
  i171 := by kernel_rfl
  i173 := by kernel_rfl
  i212 := by kernel_rfl
  i232 := by kernel_rfl
  i233 := by kernel_rfl
  m17 := by kernel_rfl
  m18 := by kernel_rfl
  m19 := by kernel_rfl }
open Go.RowKit Go.Sort Go.Lib in
/-- internal/strconv.FormatInt: "FormatInt returns the string representation of i in the given base": AT BASE 10: i's decimal numeral, for every int64. The world behind the call: the world before it, new blocks behind the heap, draws. (LAID: no walk: one application.) -/
theorem Tryz.internal_strconv_FormatInt_10 (n : Int) (h0 : -9223372036854775808 ≤ n) (h1 : n ≤ 9223372036854775807) (w : World) (htab : Lib.TabIs Tryz.prog w "internal/strconv.uint64pow10" .u64 Lib.pow10Tab) :
    Calls Tryz.prog 166 #[.int .i64 n, .int .i64 10] w fun e w' => e = .returned (.string ⟨(Lib.itoa n).toArray⟩) ∧ ∃ k os, w' = grow (w.drewN k) os := Any.internal_strconv_FormatInt_10 Tryz.laysM246 n h0 h1 w htab
def Tryz.lays246_ren : Go.Shelf.Ren := ⟨fun | 246 => 166 | 283 => 193 | 284 => 194 | 285 => 195 | 286 => 196 | 129 => 183 | 317 => 209 | 318 => 210 | 319 => 211 | 320 => 212 | 337 => 215 | 338 => 216 | n => n, fun | 2 => 2 | 3 => 3 | 9 => 9 | 4 => 4 | 171 => 231 | 0 => 0 | 53 => 111 | 37 => 104 | 5 => 5 | 173 => 233 | 212 => 254 | 51 => 205 | 20 => 20 | 213 => 255 | 46 => 106 | 232 => 264 | 233 => 180 | n => n, fun | 17 => 6 | 18 => 9 | 19 => 10 | n => n⟩
theorem Tryz.lays246 : Go.Proofs.Lays.n246 Tryz.prog Tryz.lays246_ren := {
  mixed := by kernel_rfl
  f129 := Tryz.func183.trans (congrArg some (by kernel_rfl))
  f246 := Tryz.func166.trans (congrArg some (by kernel_rfl))
  f283 := Tryz.func193.trans (congrArg some (by kernel_rfl))
  f284 := Tryz.func194.trans (congrArg some (by kernel_rfl))
  f285 := Tryz.func195.trans (congrArg some (by kernel_rfl))
  f286 := Tryz.func196.trans (congrArg some (by kernel_rfl))
  f317 := Tryz.func209.trans (congrArg some (by kernel_rfl))
  f318 := Tryz.func210.trans (congrArg some (by kernel_rfl))
  f319 := Tryz.func211.trans (congrArg some (by kernel_rfl))
  f320 := Tryz.func212.trans (congrArg some (by kernel_rfl))
  f337 := Tryz.func215.trans (congrArg some (by kernel_rfl))
  f338 := Tryz.func216.trans (congrArg some (by kernel_rfl))
  t0 := Tryz.underlying0
  a0 := Tryz.isAgg0
  z0 := Tryz.sizeOf0
  v0 := Tryz.zeroValue0
  t2 := Tryz.underlying2
  a2 := Tryz.isAgg2
  z2 := Tryz.sizeOf2
  v2 := Tryz.zeroValue2
  t3 := Tryz.underlying3
  a3 := Tryz.isAgg3
  z3 := Tryz.sizeOf3
  v3 := Tryz.zeroValue3
  t4 := Tryz.underlying4
  a4 := Tryz.isAgg4
  z4 := Tryz.sizeOf4
  v4 := Tryz.zeroValue4
  t5 := Tryz.underlying5
  a5 := Tryz.isAgg5
  z5 := Tryz.sizeOf5
  v5 := Tryz.zeroValue5
  t9 := Tryz.underlying9
  a9 := Tryz.isAgg9
  z9 := Tryz.sizeOf9
  v9 := Tryz.zeroValue9
  t20 := Tryz.underlying20
  a20 := Tryz.isAgg20
  z20 := Tryz.sizeOf20
  v20 := Tryz.zeroValue20
  t37 := Tryz.underlying104
  a37 := Tryz.isAgg104
  z37 := Tryz.sizeOf104
  v37 := Tryz.zeroValue104
  t46 := Tryz.underlying106
  a46 := Tryz.isAgg106
  z46 := Tryz.sizeOf106
  v46 := Tryz.zeroValue106
  t51 := Tryz.underlying205
  a51 := Tryz.isAgg205
  z51 := Tryz.sizeOf205
  v51 := Tryz.zeroValue205
  t53 := Tryz.underlying111
  a53 := Tryz.isAgg111
  z53 := Tryz.sizeOf111
  v53 := Tryz.zeroValue111
  t171 := Tryz.underlying231
  a171 := Tryz.isAgg231
  z171 := Tryz.sizeOf231
  v171 := Tryz.zeroValue231
  t173 := Tryz.underlying233
  a173 := Tryz.isAgg233
  z173 := Tryz.sizeOf233
  v173 := Tryz.zeroValue233
  t212 := Tryz.underlying254
  a212 := Tryz.isAgg254
  z212 := Tryz.sizeOf254
  v212 := Tryz.zeroValue254
  t213 := Tryz.underlying255
  a213 := Tryz.isAgg255
  z213 := Tryz.sizeOf255
  t232 := Tryz.underlying264
  a232 := Tryz.isAgg264
  z232 := Tryz.sizeOf264
  v232 := Tryz.zeroValue264
  t233 := Tryz.underlying180
  a233 := Tryz.isAgg180
  z233 := Tryz.sizeOf180
  v233 := Tryz.zeroValue180
  g17 := by kernel_rfl
  g18 := by kernel_rfl
  g19 := by kernel_rfl }
open Go.RowKit Go.Sort Go.Lib in
/-- THE ROAD WITHOUT THE TABLE: 0 <= i < 100: two constants are read, nothing is laid: no premise on the world, and the world is as it was. (LAID: no walk: one application.) -/
theorem Tryz.internal_strconv_FormatInt_10_small (i : Nat) (hi : i < 100) (w : World) :
    Calls Tryz.prog 166 #[.int .i64 i, .int .i64 10] w fun e w' => e = .returned (.string ⟨(Lib.decDigits i).toArray⟩) ∧ w' = w := Any.internal_strconv_FormatInt_10_small Tryz.lays246 i hi w
def Tryz.laysM243_ren : Go.Shelf.Ren := ⟨fun | 243 => 208 | 246 => 166 | 283 => 193 | 284 => 194 | 285 => 195 | 286 => 196 | 129 => 183 | 317 => 209 | 318 => 210 | 319 => 211 | 320 => 212 | 337 => 215 | 338 => 216 | n => n, fun | 3 => 3 | 9 => 9 | 2 => 2 | 4 => 4 | 171 => 231 | 0 => 0 | 53 => 111 | 37 => 104 | 5 => 5 | 173 => 233 | 212 => 254 | 51 => 205 | 20 => 20 | 213 => 255 | 46 => 106 | 232 => 264 | 233 => 180 | n => n, fun | 17 => 6 | 18 => 9 | 19 => 10 | n => n⟩
theorem Tryz.laysM243 : Go.Proofs.LaysM.n243 Tryz.prog Tryz.laysM243_ren := {
  mixed := by kernel_rfl
  f129 := Tryz.func183.trans (congrArg some (by kernel_rfl))
  f243 := Tryz.func208.trans (congrArg some (by kernel_rfl))
  f246 := Tryz.func166.trans (congrArg some (by kernel_rfl))
  f283 := Tryz.func193.trans (congrArg some (by kernel_rfl))
  f284 := Tryz.func194.trans (congrArg some (by kernel_rfl))
  f285 := Tryz.func195.trans (congrArg some (by kernel_rfl))
  f286 := Tryz.func196.trans (congrArg some (by kernel_rfl))
  f317 := Tryz.func209.trans (congrArg some (by kernel_rfl))
  f318 := Tryz.func210.trans (congrArg some (by kernel_rfl))
  f319 := Tryz.func211.trans (congrArg some (by kernel_rfl))
  f320 := Tryz.func212.trans (congrArg some (by kernel_rfl))
  f337 := Tryz.func215.trans (congrArg some (by kernel_rfl))
  f338 := Tryz.func216.trans (congrArg some (by kernel_rfl))
  t0 := Tryz.underlying0
  a0 := Tryz.isAgg0
  z0 := Tryz.sizeOf0
  v0 := Tryz.zeroValue0
  t2 := Tryz.underlying2
  a2 := Tryz.isAgg2
  z2 := Tryz.sizeOf2
  v2 := Tryz.zeroValue2
  t3 := Tryz.underlying3
  a3 := Tryz.isAgg3
  z3 := Tryz.sizeOf3
  v3 := Tryz.zeroValue3
  t4 := Tryz.underlying4
  a4 := Tryz.isAgg4
  z4 := Tryz.sizeOf4
  v4 := Tryz.zeroValue4
  t5 := Tryz.underlying5
  a5 := Tryz.isAgg5
  z5 := Tryz.sizeOf5
  v5 := Tryz.zeroValue5
  t9 := Tryz.underlying9
  a9 := Tryz.isAgg9
  z9 := Tryz.sizeOf9
  v9 := Tryz.zeroValue9
  t20 := Tryz.underlying20
  a20 := Tryz.isAgg20
  z20 := Tryz.sizeOf20
  v20 := Tryz.zeroValue20
  t37 := Tryz.underlying104
  a37 := Tryz.isAgg104
  z37 := Tryz.sizeOf104
  v37 := Tryz.zeroValue104
  t46 := Tryz.underlying106
  a46 := Tryz.isAgg106
  z46 := Tryz.sizeOf106
  v46 := Tryz.zeroValue106
  t51 := Tryz.underlying205
  a51 := Tryz.isAgg205
  z51 := Tryz.sizeOf205
  v51 := Tryz.zeroValue205
  t53 := Tryz.underlying111
  a53 := Tryz.isAgg111
  z53 := Tryz.sizeOf111
  v53 := Tryz.zeroValue111
  t171 := Tryz.underlying231
  a171 := Tryz.isAgg231
  z171 := Tryz.sizeOf231
  v171 := Tryz.zeroValue231
  t173 := Tryz.underlying233
  a173 := Tryz.isAgg233
  z173 := Tryz.sizeOf233
  v173 := Tryz.zeroValue233
  t212 := Tryz.underlying254
  a212 := Tryz.isAgg254
  z212 := Tryz.sizeOf254
  v212 := Tryz.zeroValue254
  t213 := Tryz.underlying255
  a213 := Tryz.isAgg255
  z213 := Tryz.sizeOf255
  t232 := Tryz.underlying264
  a232 := Tryz.isAgg264
  z232 := Tryz.sizeOf264
  v232 := Tryz.zeroValue264
  t233 := Tryz.underlying180
  a233 := Tryz.isAgg180
  z233 := Tryz.sizeOf180
  v233 := Tryz.zeroValue180
  g17 := by kernel_rfl
  g18 := by kernel_rfl
  g19 := by kernel_rfl
  i0 := by kernel_rfl
  i2 := by kernel_rfl
  i3 := by kernel_rfl
  i4 := by kernel_rfl
  i5 := by kernel_rfl
  i9 := by kernel_rfl
  i20 := by kernel_rfl
  i37 := by kernel_rfl
  i46 := by kernel_rfl
  i51 := by kernel_rfl
  i53 := by kernel_rfl
  i171 := by kernel_rfl
  i173 := by kernel_rfl
  i212 := by kernel_rfl
  i232 := by kernel_rfl
  i233 := by kernel_rfl
  m17 := by kernel_rfl
  m18 := by kernel_rfl
  m19 := by kernel_rfl }
open Go.RowKit Go.Sort Go.Lib in
/-- internal/strconv.Itoa: "Itoa is equivalent to FormatInt(int64(i), 10).": i's decimal numeral, for every int. (LAID: no walk: one application.) -/
theorem Tryz.internal_strconv_Itoa (n : Int) (h0 : -9223372036854775808 ≤ n) (h1 : n ≤ 9223372036854775807) (w : World) (htab : Lib.TabIs Tryz.prog w "internal/strconv.uint64pow10" .u64 Lib.pow10Tab) :
    Calls Tryz.prog 208 #[.int .i64 n] w fun e w' => e = .returned (.string ⟨(Lib.itoa n).toArray⟩) ∧ ∃ k os, w' = grow (w.drewN k) os := Any.internal_strconv_Itoa Tryz.laysM243 n h0 h1 w htab
def Tryz.lays243_ren : Go.Shelf.Ren := ⟨fun | 243 => 208 | 246 => 166 | 283 => 193 | 284 => 194 | 285 => 195 | 286 => 196 | 129 => 183 | 317 => 209 | 318 => 210 | 319 => 211 | 320 => 212 | 337 => 215 | 338 => 216 | n => n, fun | 3 => 3 | 9 => 9 | 2 => 2 | 4 => 4 | 171 => 231 | 0 => 0 | 53 => 111 | 37 => 104 | 5 => 5 | 173 => 233 | 212 => 254 | 51 => 205 | 20 => 20 | 213 => 255 | 46 => 106 | 232 => 264 | 233 => 180 | n => n, fun | 17 => 6 | 18 => 9 | 19 => 10 | n => n⟩
theorem Tryz.lays243 : Go.Proofs.Lays.n243 Tryz.prog Tryz.lays243_ren := {
  mixed := by kernel_rfl
  f129 := Tryz.func183.trans (congrArg some (by kernel_rfl))
  f243 := Tryz.func208.trans (congrArg some (by kernel_rfl))
  f246 := Tryz.func166.trans (congrArg some (by kernel_rfl))
  f283 := Tryz.func193.trans (congrArg some (by kernel_rfl))
  f284 := Tryz.func194.trans (congrArg some (by kernel_rfl))
  f285 := Tryz.func195.trans (congrArg some (by kernel_rfl))
  f286 := Tryz.func196.trans (congrArg some (by kernel_rfl))
  f317 := Tryz.func209.trans (congrArg some (by kernel_rfl))
  f318 := Tryz.func210.trans (congrArg some (by kernel_rfl))
  f319 := Tryz.func211.trans (congrArg some (by kernel_rfl))
  f320 := Tryz.func212.trans (congrArg some (by kernel_rfl))
  f337 := Tryz.func215.trans (congrArg some (by kernel_rfl))
  f338 := Tryz.func216.trans (congrArg some (by kernel_rfl))
  t0 := Tryz.underlying0
  a0 := Tryz.isAgg0
  z0 := Tryz.sizeOf0
  v0 := Tryz.zeroValue0
  t2 := Tryz.underlying2
  a2 := Tryz.isAgg2
  z2 := Tryz.sizeOf2
  v2 := Tryz.zeroValue2
  t3 := Tryz.underlying3
  a3 := Tryz.isAgg3
  z3 := Tryz.sizeOf3
  v3 := Tryz.zeroValue3
  t4 := Tryz.underlying4
  a4 := Tryz.isAgg4
  z4 := Tryz.sizeOf4
  v4 := Tryz.zeroValue4
  t5 := Tryz.underlying5
  a5 := Tryz.isAgg5
  z5 := Tryz.sizeOf5
  v5 := Tryz.zeroValue5
  t9 := Tryz.underlying9
  a9 := Tryz.isAgg9
  z9 := Tryz.sizeOf9
  v9 := Tryz.zeroValue9
  t20 := Tryz.underlying20
  a20 := Tryz.isAgg20
  z20 := Tryz.sizeOf20
  v20 := Tryz.zeroValue20
  t37 := Tryz.underlying104
  a37 := Tryz.isAgg104
  z37 := Tryz.sizeOf104
  v37 := Tryz.zeroValue104
  t46 := Tryz.underlying106
  a46 := Tryz.isAgg106
  z46 := Tryz.sizeOf106
  v46 := Tryz.zeroValue106
  t51 := Tryz.underlying205
  a51 := Tryz.isAgg205
  z51 := Tryz.sizeOf205
  v51 := Tryz.zeroValue205
  t53 := Tryz.underlying111
  a53 := Tryz.isAgg111
  z53 := Tryz.sizeOf111
  v53 := Tryz.zeroValue111
  t171 := Tryz.underlying231
  a171 := Tryz.isAgg231
  z171 := Tryz.sizeOf231
  v171 := Tryz.zeroValue231
  t173 := Tryz.underlying233
  a173 := Tryz.isAgg233
  z173 := Tryz.sizeOf233
  v173 := Tryz.zeroValue233
  t212 := Tryz.underlying254
  a212 := Tryz.isAgg254
  z212 := Tryz.sizeOf254
  v212 := Tryz.zeroValue254
  t213 := Tryz.underlying255
  a213 := Tryz.isAgg255
  z213 := Tryz.sizeOf255
  t232 := Tryz.underlying264
  a232 := Tryz.isAgg264
  z232 := Tryz.sizeOf264
  v232 := Tryz.zeroValue264
  t233 := Tryz.underlying180
  a233 := Tryz.isAgg180
  z233 := Tryz.sizeOf180
  v233 := Tryz.zeroValue180
  g17 := by kernel_rfl
  g18 := by kernel_rfl
  g19 := by kernel_rfl }
open Go.RowKit Go.Sort Go.Lib in
/-- THE ROAD WITHOUT THE TABLE: 0 <= i < 100. (LAID: no walk: one application.) -/
theorem Tryz.internal_strconv_Itoa_small (i : Nat) (hi : i < 100) (w : World) :
    Calls Tryz.prog 208 #[.int .i64 i] w fun e w' => e = .returned (.string ⟨(Lib.decDigits i).toArray⟩) ∧ w' = w := Any.internal_strconv_Itoa_small Tryz.lays243 i hi w
def Tryz.laysM171_ren : Go.Shelf.Ren := ⟨fun | 171 => 188 | 243 => 208 | 246 => 166 | 283 => 193 | 284 => 194 | 285 => 195 | 286 => 196 | 129 => 183 | 317 => 209 | 318 => 210 | 319 => 211 | 320 => 212 | 337 => 215 | 338 => 216 | n => n, fun | 3 => 3 | 9 => 9 | 2 => 2 | 4 => 4 | 171 => 231 | 0 => 0 | 53 => 111 | 37 => 104 | 5 => 5 | 173 => 233 | 212 => 254 | 51 => 205 | 20 => 20 | 213 => 255 | 46 => 106 | 232 => 264 | 233 => 180 | n => n, fun | 17 => 6 | 18 => 9 | 19 => 10 | n => n⟩
theorem Tryz.laysM171 : Go.Proofs.LaysM.n171 Tryz.prog Tryz.laysM171_ren := {
  mixed := by kernel_rfl
  f129 := Tryz.func183.trans (congrArg some (by kernel_rfl))
  f171 := Tryz.func188.trans (congrArg some (by kernel_rfl))
  f243 := Tryz.func208.trans (congrArg some (by kernel_rfl))
  f246 := Tryz.func166.trans (congrArg some (by kernel_rfl))
  f283 := Tryz.func193.trans (congrArg some (by kernel_rfl))
  f284 := Tryz.func194.trans (congrArg some (by kernel_rfl))
  f285 := Tryz.func195.trans (congrArg some (by kernel_rfl))
  f286 := Tryz.func196.trans (congrArg some (by kernel_rfl))
  f317 := Tryz.func209.trans (congrArg some (by kernel_rfl))
  f318 := Tryz.func210.trans (congrArg some (by kernel_rfl))
  f319 := Tryz.func211.trans (congrArg some (by kernel_rfl))
  f320 := Tryz.func212.trans (congrArg some (by kernel_rfl))
  f337 := Tryz.func215.trans (congrArg some (by kernel_rfl))
  f338 := Tryz.func216.trans (congrArg some (by kernel_rfl))
  t0 := Tryz.underlying0
  a0 := Tryz.isAgg0
  z0 := Tryz.sizeOf0
  v0 := Tryz.zeroValue0
  t2 := Tryz.underlying2
  a2 := Tryz.isAgg2
  z2 := Tryz.sizeOf2
  v2 := Tryz.zeroValue2
  t3 := Tryz.underlying3
  a3 := Tryz.isAgg3
  z3 := Tryz.sizeOf3
  v3 := Tryz.zeroValue3
  t4 := Tryz.underlying4
  a4 := Tryz.isAgg4
  z4 := Tryz.sizeOf4
  v4 := Tryz.zeroValue4
  t5 := Tryz.underlying5
  a5 := Tryz.isAgg5
  z5 := Tryz.sizeOf5
  v5 := Tryz.zeroValue5
  t9 := Tryz.underlying9
  a9 := Tryz.isAgg9
  z9 := Tryz.sizeOf9
  v9 := Tryz.zeroValue9
  t20 := Tryz.underlying20
  a20 := Tryz.isAgg20
  z20 := Tryz.sizeOf20
  v20 := Tryz.zeroValue20
  t37 := Tryz.underlying104
  a37 := Tryz.isAgg104
  z37 := Tryz.sizeOf104
  v37 := Tryz.zeroValue104
  t46 := Tryz.underlying106
  a46 := Tryz.isAgg106
  z46 := Tryz.sizeOf106
  v46 := Tryz.zeroValue106
  t51 := Tryz.underlying205
  a51 := Tryz.isAgg205
  z51 := Tryz.sizeOf205
  v51 := Tryz.zeroValue205
  t53 := Tryz.underlying111
  a53 := Tryz.isAgg111
  z53 := Tryz.sizeOf111
  v53 := Tryz.zeroValue111
  t171 := Tryz.underlying231
  a171 := Tryz.isAgg231
  z171 := Tryz.sizeOf231
  v171 := Tryz.zeroValue231
  t173 := Tryz.underlying233
  a173 := Tryz.isAgg233
  z173 := Tryz.sizeOf233
  v173 := Tryz.zeroValue233
  t212 := Tryz.underlying254
  a212 := Tryz.isAgg254
  z212 := Tryz.sizeOf254
  v212 := Tryz.zeroValue254
  t213 := Tryz.underlying255
  a213 := Tryz.isAgg255
  z213 := Tryz.sizeOf255
  t232 := Tryz.underlying264
  a232 := Tryz.isAgg264
  z232 := Tryz.sizeOf264
  v232 := Tryz.zeroValue264
  t233 := Tryz.underlying180
  a233 := Tryz.isAgg180
  z233 := Tryz.sizeOf180
  v233 := Tryz.zeroValue180
  g17 := by kernel_rfl
  g18 := by kernel_rfl
  g19 := by kernel_rfl
  i0 := by kernel_rfl
  i2 := by kernel_rfl
  i3 := by kernel_rfl
  i4 := by kernel_rfl
  i5 := by kernel_rfl
  i9 := by kernel_rfl
  i20 := by kernel_rfl
  i37 := by kernel_rfl
  i46 := by kernel_rfl
  i51 := by kernel_rfl
  i53 := by kernel_rfl
  i171 := by kernel_rfl
  i173 := by kernel_rfl
  i212 := by kernel_rfl
  i232 := by kernel_rfl
  i233 := by kernel_rfl
  m17 := by kernel_rfl
  m18 := by kernel_rfl
  m19 := by kernel_rfl }
open Go.RowKit Go.Sort Go.Lib in
/-- strconv.Itoa: "Itoa is equivalent to FormatInt(int64(i), 10).": i's DECIMAL NUMERAL ('Lib.itoa': a '-' where i is negative, then the digits), FOR EVERY int. The world behind the call: the world before it, new blocks behind the heap (the library's 'var a [24]byte'), draws. (LAID: no walk: one application.) -/
theorem Tryz.strconv_Itoa (n : Int) (h0 : -9223372036854775808 ≤ n) (h1 : n ≤ 9223372036854775807) (w : World) (htab : Lib.TabIs Tryz.prog w "internal/strconv.uint64pow10" .u64 Lib.pow10Tab) :
    Calls Tryz.prog 188 #[.int .i64 n] w fun e w' => e = .returned (.string ⟨(Lib.itoa n).toArray⟩) ∧ ∃ k os, w' = grow (w.drewN k) os := Any.strconv_Itoa Tryz.laysM171 n h0 h1 w htab
def Tryz.lays171_ren : Go.Shelf.Ren := ⟨fun | 171 => 188 | 243 => 208 | 246 => 166 | 283 => 193 | 284 => 194 | 285 => 195 | 286 => 196 | 129 => 183 | 317 => 209 | 318 => 210 | 319 => 211 | 320 => 212 | 337 => 215 | 338 => 216 | n => n, fun | 3 => 3 | 9 => 9 | 2 => 2 | 4 => 4 | 171 => 231 | 0 => 0 | 53 => 111 | 37 => 104 | 5 => 5 | 173 => 233 | 212 => 254 | 51 => 205 | 20 => 20 | 213 => 255 | 46 => 106 | 232 => 264 | 233 => 180 | n => n, fun | 17 => 6 | 18 => 9 | 19 => 10 | n => n⟩
theorem Tryz.lays171 : Go.Proofs.Lays.n171 Tryz.prog Tryz.lays171_ren := {
  mixed := by kernel_rfl
  f129 := Tryz.func183.trans (congrArg some (by kernel_rfl))
  f171 := Tryz.func188.trans (congrArg some (by kernel_rfl))
  f243 := Tryz.func208.trans (congrArg some (by kernel_rfl))
  f246 := Tryz.func166.trans (congrArg some (by kernel_rfl))
  f283 := Tryz.func193.trans (congrArg some (by kernel_rfl))
  f284 := Tryz.func194.trans (congrArg some (by kernel_rfl))
  f285 := Tryz.func195.trans (congrArg some (by kernel_rfl))
  f286 := Tryz.func196.trans (congrArg some (by kernel_rfl))
  f317 := Tryz.func209.trans (congrArg some (by kernel_rfl))
  f318 := Tryz.func210.trans (congrArg some (by kernel_rfl))
  f319 := Tryz.func211.trans (congrArg some (by kernel_rfl))
  f320 := Tryz.func212.trans (congrArg some (by kernel_rfl))
  f337 := Tryz.func215.trans (congrArg some (by kernel_rfl))
  f338 := Tryz.func216.trans (congrArg some (by kernel_rfl))
  t0 := Tryz.underlying0
  a0 := Tryz.isAgg0
  z0 := Tryz.sizeOf0
  v0 := Tryz.zeroValue0
  t2 := Tryz.underlying2
  a2 := Tryz.isAgg2
  z2 := Tryz.sizeOf2
  v2 := Tryz.zeroValue2
  t3 := Tryz.underlying3
  a3 := Tryz.isAgg3
  z3 := Tryz.sizeOf3
  v3 := Tryz.zeroValue3
  t4 := Tryz.underlying4
  a4 := Tryz.isAgg4
  z4 := Tryz.sizeOf4
  v4 := Tryz.zeroValue4
  t5 := Tryz.underlying5
  a5 := Tryz.isAgg5
  z5 := Tryz.sizeOf5
  v5 := Tryz.zeroValue5
  t9 := Tryz.underlying9
  a9 := Tryz.isAgg9
  z9 := Tryz.sizeOf9
  v9 := Tryz.zeroValue9
  t20 := Tryz.underlying20
  a20 := Tryz.isAgg20
  z20 := Tryz.sizeOf20
  v20 := Tryz.zeroValue20
  t37 := Tryz.underlying104
  a37 := Tryz.isAgg104
  z37 := Tryz.sizeOf104
  v37 := Tryz.zeroValue104
  t46 := Tryz.underlying106
  a46 := Tryz.isAgg106
  z46 := Tryz.sizeOf106
  v46 := Tryz.zeroValue106
  t51 := Tryz.underlying205
  a51 := Tryz.isAgg205
  z51 := Tryz.sizeOf205
  v51 := Tryz.zeroValue205
  t53 := Tryz.underlying111
  a53 := Tryz.isAgg111
  z53 := Tryz.sizeOf111
  v53 := Tryz.zeroValue111
  t171 := Tryz.underlying231
  a171 := Tryz.isAgg231
  z171 := Tryz.sizeOf231
  v171 := Tryz.zeroValue231
  t173 := Tryz.underlying233
  a173 := Tryz.isAgg233
  z173 := Tryz.sizeOf233
  v173 := Tryz.zeroValue233
  t212 := Tryz.underlying254
  a212 := Tryz.isAgg254
  z212 := Tryz.sizeOf254
  v212 := Tryz.zeroValue254
  t213 := Tryz.underlying255
  a213 := Tryz.isAgg255
  z213 := Tryz.sizeOf255
  t232 := Tryz.underlying264
  a232 := Tryz.isAgg264
  z232 := Tryz.sizeOf264
  v232 := Tryz.zeroValue264
  t233 := Tryz.underlying180
  a233 := Tryz.isAgg180
  z233 := Tryz.sizeOf180
  v233 := Tryz.zeroValue180
  g17 := by kernel_rfl
  g18 := by kernel_rfl
  g19 := by kernel_rfl }
open Go.RowKit Go.Sort Go.Lib in
/-- THE ROAD WITHOUT THE TABLE: 0 <= i < 100: NO PREMISE ON THE WORLD, AND THE WORLD IS AS IT WAS: a row that keeps its argument in that range need list no table ('laid = []'). (LAID: no walk: one application.) -/
theorem Tryz.strconv_Itoa_small (i : Nat) (hi : i < 100) (w : World) :
    Calls Tryz.prog 188 #[.int .i64 i] w fun e w' => e = .returned (.string ⟨(Lib.decDigits i).toArray⟩) ∧ w' = w := Any.strconv_Itoa_small Tryz.lays171 i hi w
def Tryz.laysM173_ren : Go.Shelf.Ren := ⟨fun | 173 => 141 | 246 => 166 | 283 => 193 | 284 => 194 | 285 => 195 | 286 => 196 | 129 => 183 | 317 => 209 | 318 => 210 | 319 => 211 | 320 => 212 | 337 => 215 | 338 => 216 | n => n, fun | 2 => 2 | 3 => 3 | 9 => 9 | 4 => 4 | 171 => 231 | 0 => 0 | 53 => 111 | 37 => 104 | 5 => 5 | 173 => 233 | 212 => 254 | 51 => 205 | 20 => 20 | 213 => 255 | 46 => 106 | 232 => 264 | 233 => 180 | n => n, fun | 17 => 6 | 18 => 9 | 19 => 10 | n => n⟩
theorem Tryz.laysM173 : Go.Proofs.LaysM.n173 Tryz.prog Tryz.laysM173_ren := {
  mixed := by kernel_rfl
  f129 := Tryz.func183.trans (congrArg some (by kernel_rfl))
  f173 := Tryz.func141.trans (congrArg some (by kernel_rfl))
  f246 := Tryz.func166.trans (congrArg some (by kernel_rfl))
  f283 := Tryz.func193.trans (congrArg some (by kernel_rfl))
  f284 := Tryz.func194.trans (congrArg some (by kernel_rfl))
  f285 := Tryz.func195.trans (congrArg some (by kernel_rfl))
  f286 := Tryz.func196.trans (congrArg some (by kernel_rfl))
  f317 := Tryz.func209.trans (congrArg some (by kernel_rfl))
  f318 := Tryz.func210.trans (congrArg some (by kernel_rfl))
  f319 := Tryz.func211.trans (congrArg some (by kernel_rfl))
  f320 := Tryz.func212.trans (congrArg some (by kernel_rfl))
  f337 := Tryz.func215.trans (congrArg some (by kernel_rfl))
  f338 := Tryz.func216.trans (congrArg some (by kernel_rfl))
  t0 := Tryz.underlying0
  a0 := Tryz.isAgg0
  z0 := Tryz.sizeOf0
  v0 := Tryz.zeroValue0
  t2 := Tryz.underlying2
  a2 := Tryz.isAgg2
  z2 := Tryz.sizeOf2
  v2 := Tryz.zeroValue2
  t3 := Tryz.underlying3
  a3 := Tryz.isAgg3
  z3 := Tryz.sizeOf3
  v3 := Tryz.zeroValue3
  t4 := Tryz.underlying4
  a4 := Tryz.isAgg4
  z4 := Tryz.sizeOf4
  v4 := Tryz.zeroValue4
  t5 := Tryz.underlying5
  a5 := Tryz.isAgg5
  z5 := Tryz.sizeOf5
  v5 := Tryz.zeroValue5
  t9 := Tryz.underlying9
  a9 := Tryz.isAgg9
  z9 := Tryz.sizeOf9
  v9 := Tryz.zeroValue9
  t20 := Tryz.underlying20
  a20 := Tryz.isAgg20
  z20 := Tryz.sizeOf20
  v20 := Tryz.zeroValue20
  t37 := Tryz.underlying104
  a37 := Tryz.isAgg104
  z37 := Tryz.sizeOf104
  v37 := Tryz.zeroValue104
  t46 := Tryz.underlying106
  a46 := Tryz.isAgg106
  z46 := Tryz.sizeOf106
  v46 := Tryz.zeroValue106
  t51 := Tryz.underlying205
  a51 := Tryz.isAgg205
  z51 := Tryz.sizeOf205
  v51 := Tryz.zeroValue205
  t53 := Tryz.underlying111
  a53 := Tryz.isAgg111
  z53 := Tryz.sizeOf111
  v53 := Tryz.zeroValue111
  t171 := Tryz.underlying231
  a171 := Tryz.isAgg231
  z171 := Tryz.sizeOf231
  v171 := Tryz.zeroValue231
  t173 := Tryz.underlying233
  a173 := Tryz.isAgg233
  z173 := Tryz.sizeOf233
  v173 := Tryz.zeroValue233
  t212 := Tryz.underlying254
  a212 := Tryz.isAgg254
  z212 := Tryz.sizeOf254
  v212 := Tryz.zeroValue254
  t213 := Tryz.underlying255
  a213 := Tryz.isAgg255
  z213 := Tryz.sizeOf255
  t232 := Tryz.underlying264
  a232 := Tryz.isAgg264
  z232 := Tryz.sizeOf264
  v232 := Tryz.zeroValue264
  t233 := Tryz.underlying180
  a233 := Tryz.isAgg180
  z233 := Tryz.sizeOf180
  v233 := Tryz.zeroValue180
  g17 := by kernel_rfl
  g18 := by kernel_rfl
  g19 := by kernel_rfl
  i0 := by kernel_rfl
  i2 := by kernel_rfl
  i3 := by kernel_rfl
  i4 := by kernel_rfl
  i5 := by kernel_rfl
  i9 := by kernel_rfl
  i20 := by kernel_rfl
  i37 := by kernel_rfl
  i46 := by kernel_rfl
  i51 := by kernel_rfl
  i53 := by kernel_rfl
  i171 := by kernel_rfl
  i173 := by kernel_rfl
  i212 := by kernel_rfl
  i232 := by kernel_rfl
  i233 := by kernel_rfl
  m17 := by kernel_rfl
  m18 := by kernel_rfl
  m19 := by kernel_rfl }
open Go.RowKit Go.Sort Go.Lib in
/-- strconv.FormatInt: "FormatInt returns the string representation of i in the given base": AT BASE 10: i's decimal numeral, for every int64. (LAID: no walk: one application.) -/
theorem Tryz.strconv_FormatInt_10 (n : Int) (h0 : -9223372036854775808 ≤ n) (h1 : n ≤ 9223372036854775807) (w : World) (htab : Lib.TabIs Tryz.prog w "internal/strconv.uint64pow10" .u64 Lib.pow10Tab) :
    Calls Tryz.prog 141 #[.int .i64 n, .int .i64 10] w fun e w' => e = .returned (.string ⟨(Lib.itoa n).toArray⟩) ∧ ∃ k os, w' = grow (w.drewN k) os := Any.strconv_FormatInt_10 Tryz.laysM173 n h0 h1 w htab
def Tryz.lays173_ren : Go.Shelf.Ren := ⟨fun | 173 => 141 | 246 => 166 | 283 => 193 | 284 => 194 | 285 => 195 | 286 => 196 | 129 => 183 | 317 => 209 | 318 => 210 | 319 => 211 | 320 => 212 | 337 => 215 | 338 => 216 | n => n, fun | 2 => 2 | 3 => 3 | 9 => 9 | 4 => 4 | 171 => 231 | 0 => 0 | 53 => 111 | 37 => 104 | 5 => 5 | 173 => 233 | 212 => 254 | 51 => 205 | 20 => 20 | 213 => 255 | 46 => 106 | 232 => 264 | 233 => 180 | n => n, fun | 17 => 6 | 18 => 9 | 19 => 10 | n => n⟩
theorem Tryz.lays173 : Go.Proofs.Lays.n173 Tryz.prog Tryz.lays173_ren := {
  mixed := by kernel_rfl
  f129 := Tryz.func183.trans (congrArg some (by kernel_rfl))
  f173 := Tryz.func141.trans (congrArg some (by kernel_rfl))
  f246 := Tryz.func166.trans (congrArg some (by kernel_rfl))
  f283 := Tryz.func193.trans (congrArg some (by kernel_rfl))
  f284 := Tryz.func194.trans (congrArg some (by kernel_rfl))
  f285 := Tryz.func195.trans (congrArg some (by kernel_rfl))
  f286 := Tryz.func196.trans (congrArg some (by kernel_rfl))
  f317 := Tryz.func209.trans (congrArg some (by kernel_rfl))
  f318 := Tryz.func210.trans (congrArg some (by kernel_rfl))
  f319 := Tryz.func211.trans (congrArg some (by kernel_rfl))
  f320 := Tryz.func212.trans (congrArg some (by kernel_rfl))
  f337 := Tryz.func215.trans (congrArg some (by kernel_rfl))
  f338 := Tryz.func216.trans (congrArg some (by kernel_rfl))
  t0 := Tryz.underlying0
  a0 := Tryz.isAgg0
  z0 := Tryz.sizeOf0
  v0 := Tryz.zeroValue0
  t2 := Tryz.underlying2
  a2 := Tryz.isAgg2
  z2 := Tryz.sizeOf2
  v2 := Tryz.zeroValue2
  t3 := Tryz.underlying3
  a3 := Tryz.isAgg3
  z3 := Tryz.sizeOf3
  v3 := Tryz.zeroValue3
  t4 := Tryz.underlying4
  a4 := Tryz.isAgg4
  z4 := Tryz.sizeOf4
  v4 := Tryz.zeroValue4
  t5 := Tryz.underlying5
  a5 := Tryz.isAgg5
  z5 := Tryz.sizeOf5
  v5 := Tryz.zeroValue5
  t9 := Tryz.underlying9
  a9 := Tryz.isAgg9
  z9 := Tryz.sizeOf9
  v9 := Tryz.zeroValue9
  t20 := Tryz.underlying20
  a20 := Tryz.isAgg20
  z20 := Tryz.sizeOf20
  v20 := Tryz.zeroValue20
  t37 := Tryz.underlying104
  a37 := Tryz.isAgg104
  z37 := Tryz.sizeOf104
  v37 := Tryz.zeroValue104
  t46 := Tryz.underlying106
  a46 := Tryz.isAgg106
  z46 := Tryz.sizeOf106
  v46 := Tryz.zeroValue106
  t51 := Tryz.underlying205
  a51 := Tryz.isAgg205
  z51 := Tryz.sizeOf205
  v51 := Tryz.zeroValue205
  t53 := Tryz.underlying111
  a53 := Tryz.isAgg111
  z53 := Tryz.sizeOf111
  v53 := Tryz.zeroValue111
  t171 := Tryz.underlying231
  a171 := Tryz.isAgg231
  z171 := Tryz.sizeOf231
  v171 := Tryz.zeroValue231
  t173 := Tryz.underlying233
  a173 := Tryz.isAgg233
  z173 := Tryz.sizeOf233
  v173 := Tryz.zeroValue233
  t212 := Tryz.underlying254
  a212 := Tryz.isAgg254
  z212 := Tryz.sizeOf254
  v212 := Tryz.zeroValue254
  t213 := Tryz.underlying255
  a213 := Tryz.isAgg255
  z213 := Tryz.sizeOf255
  t232 := Tryz.underlying264
  a232 := Tryz.isAgg264
  z232 := Tryz.sizeOf264
  v232 := Tryz.zeroValue264
  t233 := Tryz.underlying180
  a233 := Tryz.isAgg180
  z233 := Tryz.sizeOf180
  v233 := Tryz.zeroValue180
  g17 := by kernel_rfl
  g18 := by kernel_rfl
  g19 := by kernel_rfl }
open Go.RowKit Go.Sort Go.Lib in
/-- THE ROAD WITHOUT THE TABLE: 0 <= i < 100. (LAID: no walk: one application.) -/
theorem Tryz.strconv_FormatInt_10_small (i : Nat) (hi : i < 100) (w : World) :
    Calls Tryz.prog 141 #[.int .i64 i, .int .i64 10] w fun e w' => e = .returned (.string ⟨(Lib.decDigits i).toArray⟩) ∧ w' = w := Any.strconv_FormatInt_10_small Tryz.lays173 i hi w
def Tryz.lays247_ren : Go.Shelf.Ren := ⟨fun | 247 => 131 | 287 => 151 | 321 => 185 | 322 => 186 | n => n, fun | 9 => 9 | 3 => 3 | 2 => 2 | 75 => 79 | 4 => 4 | 167 => 192 | 5 => 5 | 53 => 111 | 175 => 193 | 46 => 106 | 37 => 104 | 0 => 0 | 21 => 21 | 80 => 92 | n => n, fun | n => n⟩
theorem Tryz.lays247 : Go.Proofs.Lays.n247 Tryz.prog Tryz.lays247_ren := {
  mixed := by kernel_rfl
  f247 := Tryz.func131.trans (congrArg some (by kernel_rfl))
  f287 := Tryz.func151.trans (congrArg some (by kernel_rfl))
  f321 := Tryz.func185.trans (congrArg some (by kernel_rfl))
  f322 := Tryz.func186.trans (congrArg some (by kernel_rfl))
  t0 := Tryz.underlying0
  a0 := Tryz.isAgg0
  z0 := Tryz.sizeOf0
  v0 := Tryz.zeroValue0
  t2 := Tryz.underlying2
  a2 := Tryz.isAgg2
  z2 := Tryz.sizeOf2
  v2 := Tryz.zeroValue2
  t3 := Tryz.underlying3
  a3 := Tryz.isAgg3
  z3 := Tryz.sizeOf3
  v3 := Tryz.zeroValue3
  t4 := Tryz.underlying4
  a4 := Tryz.isAgg4
  z4 := Tryz.sizeOf4
  v4 := Tryz.zeroValue4
  t5 := Tryz.underlying5
  a5 := Tryz.isAgg5
  z5 := Tryz.sizeOf5
  v5 := Tryz.zeroValue5
  t9 := Tryz.underlying9
  a9 := Tryz.isAgg9
  z9 := Tryz.sizeOf9
  v9 := Tryz.zeroValue9
  t21 := Tryz.underlying21
  a21 := Tryz.isAgg21
  z21 := Tryz.sizeOf21
  v21 := Tryz.zeroValue21
  t37 := Tryz.underlying104
  a37 := Tryz.isAgg104
  z37 := Tryz.sizeOf104
  v37 := Tryz.zeroValue104
  t46 := Tryz.underlying106
  a46 := Tryz.isAgg106
  z46 := Tryz.sizeOf106
  v46 := Tryz.zeroValue106
  t53 := Tryz.underlying111
  a53 := Tryz.isAgg111
  z53 := Tryz.sizeOf111
  v53 := Tryz.zeroValue111
  t75 := Tryz.underlying79
  a75 := Tryz.isAgg79
  z75 := Tryz.sizeOf79
  v75 := Tryz.zeroValue79
  t167 := Tryz.underlying192
  a167 := Tryz.isAgg192
  z167 := Tryz.sizeOf192
  v167 := Tryz.zeroValue192
  t175 := Tryz.underlying193
  a175 := Tryz.isAgg193
  z175 := Tryz.sizeOf193
  v175 := Tryz.zeroValue193 }
open Go.RowKit in
/-- internal/strconv.ParseInt at "": 'if s == "" { return 0, ErrSyntax }'. The world is as it was. (LAID: no walk: one application.) -/
theorem Tryz.internal_strconv_ParseInt_empty (base bits : Int) (w : World) :
    Calls Tryz.prog 131 #[.string ⟨#[]⟩, .int .i64 base, .int .i64 bits] w fun e w' => e = .returned (.tuple #[.int .i64 0, (.iface 192 (.int .i64 2))]) ∧ w' = w := Any.internal_strconv_ParseInt_empty Tryz.lays247 base bits w
def Tryz.laysM316_ren : Go.Shelf.Ren := ⟨fun | 316 => 187 | n => n, fun | 9 => 9 | 3 => 3 | 4 => 4 | 37 => 104 | 0 => 0 | 127 => 191 | 5 => 5 | n => n, fun | n => n⟩
theorem Tryz.laysM316 : Go.Proofs.LaysM.n316 Tryz.prog Tryz.laysM316_ren := {
  mixed := by kernel_rfl
  f316 := Tryz.func187.trans (congrArg some (by kernel_rfl))
  t0 := Tryz.underlying0
  a0 := Tryz.isAgg0
  z0 := Tryz.sizeOf0
  v0 := Tryz.zeroValue0
  t3 := Tryz.underlying3
  a3 := Tryz.isAgg3
  z3 := Tryz.sizeOf3
  v3 := Tryz.zeroValue3
  t4 := Tryz.underlying4
  a4 := Tryz.isAgg4
  z4 := Tryz.sizeOf4
  v4 := Tryz.zeroValue4
  t9 := Tryz.underlying9
  a9 := Tryz.isAgg9
  z9 := Tryz.sizeOf9
  v9 := Tryz.zeroValue9
  t37 := Tryz.underlying104
  a37 := Tryz.isAgg104
  z37 := Tryz.sizeOf104
  v37 := Tryz.zeroValue104
  t127 := Tryz.underlying191
  a127 := Tryz.isAgg191
  z127 := Tryz.sizeOf191
  v127 := Tryz.zeroValue191
  t5 := Tryz.underlying5
  a5 := Tryz.isAgg5
  z5 := Tryz.sizeOf5
  v5 := Tryz.zeroValue5
  i0 := by kernel_rfl
  i3 := by kernel_rfl
  i4 := by kernel_rfl
  i5 := by kernel_rfl
  i9 := by kernel_rfl
  i37 := by kernel_rfl
  i127 := by kernel_rfl }
open Go.RowKit in
/-- internal/stringslite.Clone (what strings.Clone calls): "Clone returns a fresh copy of s.": THE SAME BYTES. Of what was there nothing has turned (a new row is laid, and frozen, where s is not empty). (LAID: no walk: one application.) -/
theorem Tryz.stringslite_Clone (s : ByteArray) (w : World) (hlim : s.size ≤ 281474976710656) :
    Calls Tryz.prog 187 #[.string s] w fun e w' => e = .returned (.string s) ∧ Below w.heap.size w w' := Any.stringslite_Clone Tryz.laysM316 s w hlim
def Tryz.laysM279_ren : Go.Shelf.Ren := ⟨fun | 279 => 152 | 316 => 187 | n => n, fun | 9 => 9 | 168 => 195 | 75 => 79 | 210 => 224 | 3 => 3 | 4 => 4 | 37 => 104 | 0 => 0 | 127 => 191 | 80 => 92 | 5 => 5 | n => n, fun | 15 => 3 | n => n⟩
theorem Tryz.laysM279 : Go.Proofs.LaysM.n279 Tryz.prog Tryz.laysM279_ren := {
  mixed := by kernel_rfl
  f279 := Tryz.func152.trans (congrArg some (by kernel_rfl))
  f316 := Tryz.func187.trans (congrArg some (by kernel_rfl))
  t0 := Tryz.underlying0
  a0 := Tryz.isAgg0
  z0 := Tryz.sizeOf0
  v0 := Tryz.zeroValue0
  t3 := Tryz.underlying3
  a3 := Tryz.isAgg3
  z3 := Tryz.sizeOf3
  v3 := Tryz.zeroValue3
  t4 := Tryz.underlying4
  a4 := Tryz.isAgg4
  z4 := Tryz.sizeOf4
  v4 := Tryz.zeroValue4
  t9 := Tryz.underlying9
  a9 := Tryz.isAgg9
  z9 := Tryz.sizeOf9
  v9 := Tryz.zeroValue9
  t37 := Tryz.underlying104
  a37 := Tryz.isAgg104
  z37 := Tryz.sizeOf104
  v37 := Tryz.zeroValue104
  t75 := Tryz.underlying79
  a75 := Tryz.isAgg79
  z75 := Tryz.sizeOf79
  v75 := Tryz.zeroValue79
  t127 := Tryz.underlying191
  a127 := Tryz.isAgg191
  z127 := Tryz.sizeOf191
  v127 := Tryz.zeroValue191
  t168 := Tryz.underlying195
  a168 := Tryz.isAgg195
  z168 := Tryz.sizeOf195
  v168 := Tryz.zeroValue195
  t210 := Tryz.underlying224
  a210 := Tryz.isAgg224
  z210 := Tryz.sizeOf224
  v210 := Tryz.zeroValue224
  g15 := by kernel_rfl
  t5 := Tryz.underlying5
  a5 := Tryz.isAgg5
  z5 := Tryz.sizeOf5
  v5 := Tryz.zeroValue5
  t80 := Tryz.underlying92
  a80 := Tryz.isAgg92
  z80 := Tryz.sizeOf92
  v80 := Tryz.zeroValue92
  i0 := by kernel_rfl
  i3 := by kernel_rfl
  i4 := by kernel_rfl
  i5 := by kernel_rfl
  i9 := by kernel_rfl
  i37 := by kernel_rfl
  i75 := by kernel_rfl
  i80 := by kernel_rfl
  i127 := by kernel_rfl
  i168 := by kernel_rfl
  i210 := by kernel_rfl
  m15 := by kernel_rfl }
open Go.RowKit in
/-- strconv.syntaxError: '&NumError{fn, stringslite.Clone(str), ErrSyntax}': A POINTER TO A NEW BLOCK that holds fn, str's bytes, and what the variable ErrSyntax holds. Of what was there nothing has turned. (LAID: no walk: one application.) -/
theorem Tryz.strconv_syntaxError (fn s : ByteArray) (ev : Value) (w : World) (hlim : s.size ≤ 281474976710656) (hv : w.cell? ⟨3, 0, none⟩ = some ev) (hev : ev = .nilIface ∨ ∃ te pe, ev = .iface te pe) :
    Calls Tryz.prog 152 #[.string fn, .string s] w fun e w' => ∃ N, e = .returned (.pointer (some ⟨N, 0, none⟩)) ∧ w.heap.size ≤ N ∧ w'.heap[N]? = some (.cells #[.string fn, .string s, ev] 224 (0, 0)) ∧ Below w.heap.size w w' := Any.strconv_syntaxError Tryz.laysM279 fn s ev w hlim hv hev
def Tryz.laysC245_ren : Go.Shelf.Ren := ⟨fun | 245 => 132 | 279 => 152 | 280 => 153 | 281 => 154 | 282 => 155 | 316 => 187 | 171 => 188 | 205 => 160 | 243 => 208 | 246 => 166 | 283 => 193 | 284 => 194 | 285 => 195 | 286 => 196 | 129 => 183 | 317 => 209 | 318 => 210 | 319 => 211 | 320 => 212 | 337 => 215 | 338 => 216 | n => n, fun | 9 => 9 | 3 => 3 | 75 => 79 | 167 => 192 | 4 => 4 | 168 => 195 | 210 => 224 | 37 => 104 | 0 => 0 | 127 => 191 | 145 => 229 | 143 => 227 | 2 => 2 | 171 => 231 | 53 => 111 | 5 => 5 | 173 => 233 | 212 => 254 | 51 => 205 | 20 => 20 | 213 => 255 | 46 => 106 | 232 => 264 | 233 => 180 | 80 => 92 | n => n, fun | 15 => 3 | 16 => 4 | 17 => 6 | 18 => 9 | 19 => 10 | n => n⟩
theorem Tryz.laysC245 : Go.Proofs.LaysC.n245 Tryz.prog Tryz.laysC245_ren := {
  mixed := by kernel_rfl
  f129 := Tryz.func183.trans (congrArg some (by kernel_rfl))
  f171 := Tryz.func188.trans (congrArg some (by kernel_rfl))
  f205 := Tryz.func160.trans (congrArg some (by kernel_rfl))
  f243 := Tryz.func208.trans (congrArg some (by kernel_rfl))
  f245 := Tryz.func132.trans (congrArg some (by kernel_rfl))
  f246 := Tryz.func166.trans (congrArg some (by kernel_rfl))
  f279 := Tryz.func152.trans (congrArg some (by kernel_rfl))
  f280 := Tryz.func153.trans (congrArg some (by kernel_rfl))
  f281 := Tryz.func154.trans (congrArg some (by kernel_rfl))
  f282 := Tryz.func155.trans (congrArg some (by kernel_rfl))
  f283 := Tryz.func193.trans (congrArg some (by kernel_rfl))
  f284 := Tryz.func194.trans (congrArg some (by kernel_rfl))
  f285 := Tryz.func195.trans (congrArg some (by kernel_rfl))
  f286 := Tryz.func196.trans (congrArg some (by kernel_rfl))
  f316 := Tryz.func187.trans (congrArg some (by kernel_rfl))
  f317 := Tryz.func209.trans (congrArg some (by kernel_rfl))
  f318 := Tryz.func210.trans (congrArg some (by kernel_rfl))
  f319 := Tryz.func211.trans (congrArg some (by kernel_rfl))
  f320 := Tryz.func212.trans (congrArg some (by kernel_rfl))
  f337 := Tryz.func215.trans (congrArg some (by kernel_rfl))
  f338 := Tryz.func216.trans (congrArg some (by kernel_rfl))
  t0 := Tryz.underlying0
  a0 := Tryz.isAgg0
  z0 := Tryz.sizeOf0
  v0 := Tryz.zeroValue0
  t2 := Tryz.underlying2
  a2 := Tryz.isAgg2
  z2 := Tryz.sizeOf2
  v2 := Tryz.zeroValue2
  t3 := Tryz.underlying3
  a3 := Tryz.isAgg3
  z3 := Tryz.sizeOf3
  v3 := Tryz.zeroValue3
  t4 := Tryz.underlying4
  a4 := Tryz.isAgg4
  z4 := Tryz.sizeOf4
  v4 := Tryz.zeroValue4
  t5 := Tryz.underlying5
  a5 := Tryz.isAgg5
  z5 := Tryz.sizeOf5
  v5 := Tryz.zeroValue5
  t9 := Tryz.underlying9
  a9 := Tryz.isAgg9
  z9 := Tryz.sizeOf9
  v9 := Tryz.zeroValue9
  t20 := Tryz.underlying20
  a20 := Tryz.isAgg20
  z20 := Tryz.sizeOf20
  v20 := Tryz.zeroValue20
  t37 := Tryz.underlying104
  a37 := Tryz.isAgg104
  z37 := Tryz.sizeOf104
  v37 := Tryz.zeroValue104
  t46 := Tryz.underlying106
  a46 := Tryz.isAgg106
  z46 := Tryz.sizeOf106
  v46 := Tryz.zeroValue106
  t51 := Tryz.underlying205
  a51 := Tryz.isAgg205
  z51 := Tryz.sizeOf205
  v51 := Tryz.zeroValue205
  t53 := Tryz.underlying111
  a53 := Tryz.isAgg111
  z53 := Tryz.sizeOf111
  v53 := Tryz.zeroValue111
  t75 := Tryz.underlying79
  a75 := Tryz.isAgg79
  z75 := Tryz.sizeOf79
  v75 := Tryz.zeroValue79
  t127 := Tryz.underlying191
  a127 := Tryz.isAgg191
  z127 := Tryz.sizeOf191
  v127 := Tryz.zeroValue191
  t143 := Tryz.underlying227
  a143 := Tryz.isAgg227
  z143 := Tryz.sizeOf227
  v143 := Tryz.zeroValue227
  t145 := Tryz.underlying229
  a145 := Tryz.isAgg229
  z145 := Tryz.sizeOf229
  v145 := Tryz.zeroValue229
  t167 := Tryz.underlying192
  a167 := Tryz.isAgg192
  z167 := Tryz.sizeOf192
  v167 := Tryz.zeroValue192
  t168 := Tryz.underlying195
  a168 := Tryz.isAgg195
  z168 := Tryz.sizeOf195
  v168 := Tryz.zeroValue195
  t171 := Tryz.underlying231
  a171 := Tryz.isAgg231
  z171 := Tryz.sizeOf231
  v171 := Tryz.zeroValue231
  t173 := Tryz.underlying233
  a173 := Tryz.isAgg233
  z173 := Tryz.sizeOf233
  v173 := Tryz.zeroValue233
  t210 := Tryz.underlying224
  a210 := Tryz.isAgg224
  z210 := Tryz.sizeOf224
  v210 := Tryz.zeroValue224
  t212 := Tryz.underlying254
  a212 := Tryz.isAgg254
  z212 := Tryz.sizeOf254
  v212 := Tryz.zeroValue254
  t213 := Tryz.underlying255
  a213 := Tryz.isAgg255
  z213 := Tryz.sizeOf255
  t232 := Tryz.underlying264
  a232 := Tryz.isAgg264
  z232 := Tryz.sizeOf264
  v232 := Tryz.zeroValue264
  t233 := Tryz.underlying180
  a233 := Tryz.isAgg180
  z233 := Tryz.sizeOf180
  v233 := Tryz.zeroValue180
  g15 := by kernel_rfl
  g16 := by kernel_rfl
  g17 := by kernel_rfl
  g18 := by kernel_rfl
  g19 := by kernel_rfl
  t80 := Tryz.underlying92
  a80 := Tryz.isAgg92
  z80 := Tryz.sizeOf92
  v80 := Tryz.zeroValue92
  i0 := by kernel_rfl
  i2 := by kernel_rfl
  i3 := by kernel_rfl
  i4 := by kernel_rfl
  i5 := by kernel_rfl
  i9 := by kernel_rfl
  i20 := by kernel_rfl
  i37 := by kernel_rfl
  i46 := by kernel_rfl
  i51 := by kernel_rfl
  i53 := by kernel_rfl
  i75 := by kernel_rfl
  i80 := by kernel_rfl
  i127 := by kernel_rfl
  i143 := by kernel_rfl
  i145 := by kernel_rfl
  i167 := by kernel_rfl
  i168 := by kernel_rfl
  i171 := by kernel_rfl
  i173 := by kernel_rfl
  i210 := by kernel_rfl
  i212 := by kernel_rfl
  i232 := by kernel_rfl
  i233 := by kernel_rfl
  m15 := by kernel_rfl
  m16 := by kernel_rfl
  m17 := by kernel_rfl
  m18 := by kernel_rfl
  m19 := by kernel_rfl
  c0 := by kernel_rfl
  c2 := by kernel_rfl
  c3 := by kernel_rfl
  c4 := by kernel_rfl
  c5 := by kernel_rfl
  c9 := by kernel_rfl
  c20 := by kernel_rfl
  c37 := by kernel_rfl
  c46 := by kernel_rfl
  c51 := by kernel_rfl
  c53 := by kernel_rfl
  c75 := by kernel_rfl
  c80 := by kernel_rfl
  c127 := by kernel_rfl
  c143 := by kernel_rfl
  c145 := by kernel_rfl
  c167 := by kernel_rfl
  c168 := by kernel_rfl
  c171 := by kernel_rfl
  c173 := by kernel_rfl
  c210 := by kernel_rfl
  c212 := by kernel_rfl
  c213 := by kernel_rfl
  c232 := by kernel_rfl
  c233 := by kernel_rfl }
open Go.RowKit in
/-- strconv.toError, at the inner package's ErrSyntax: 'syntaxError(fn, s)' as an error: A *NumError IN A NEW BLOCK. (LAID: no walk: one application.) -/
theorem Tryz.strconv_toError_syntax (fn s : ByteArray) (base bits : Int) (ev : Value) (w : World) (hlim : s.size ≤ 281474976710656) (hv : w.cell? ⟨3, 0, none⟩ = some ev) (hev : ev = .nilIface ∨ ∃ te pe, ev = .iface te pe) :
    Calls Tryz.prog 132 #[.string fn, .string s, .int .i64 base, .int .i64 bits, .iface 192 (.int .i64 2)] w fun e w' => ∃ N, e = .returned (.iface 195 (.pointer (some ⟨N, 0, none⟩))) ∧ w.heap.size ≤ N ∧ w'.heap[N]? = some (.cells #[.string fn, .string s, ev] 224 (0, 0)) ∧ Below w.heap.size w w' := Any.strconv_toError_syntax Tryz.laysC245 fn s base bits ev w hlim hv hev
def Tryz.lays321_ren : Go.Shelf.Ren := ⟨fun | 321 => 185 | n => n, fun | 5 => 5 | n => n, fun | n => n⟩
theorem Tryz.lays321 : Go.Proofs.Lays.n321 Tryz.prog Tryz.lays321_ren := {
  mixed := by kernel_rfl
  f321 := Tryz.func185.trans (congrArg some (by kernel_rfl))
  t5 := Tryz.underlying5
  a5 := Tryz.isAgg5
  z5 := Tryz.sizeOf5
  v5 := Tryz.zeroValue5 }
open Go.RowKit in
/-- internal/strconv.lower: 'c | ('x' - 'X')': the bit 32 set. The world is as it was. (LAID: no walk: one application.) -/
theorem Tryz.internal_strconv_lower (c : Int) (w : World) :
    Calls Tryz.prog 185 #[.int .u8 c] w fun e w' => e = .returned (.int .u8 (bits .or .u8 c 32)) ∧ w' = w := Any.internal_strconv_lower Tryz.lays321 c w
def Tryz.lays287_ren : Go.Shelf.Ren := ⟨fun | 287 => 151 | 321 => 185 | 322 => 186 | n => n, fun | 9 => 9 | 3 => 3 | 53 => 111 | 75 => 79 | 4 => 4 | 167 => 192 | 5 => 5 | 46 => 106 | 37 => 104 | 0 => 0 | 21 => 21 | 80 => 92 | n => n, fun | n => n⟩
theorem Tryz.lays287 : Go.Proofs.Lays.n287 Tryz.prog Tryz.lays287_ren := {
  mixed := by kernel_rfl
  f287 := Tryz.func151.trans (congrArg some (by kernel_rfl))
  f321 := Tryz.func185.trans (congrArg some (by kernel_rfl))
  f322 := Tryz.func186.trans (congrArg some (by kernel_rfl))
  t0 := Tryz.underlying0
  a0 := Tryz.isAgg0
  z0 := Tryz.sizeOf0
  v0 := Tryz.zeroValue0
  t3 := Tryz.underlying3
  a3 := Tryz.isAgg3
  z3 := Tryz.sizeOf3
  v3 := Tryz.zeroValue3
  t4 := Tryz.underlying4
  a4 := Tryz.isAgg4
  z4 := Tryz.sizeOf4
  v4 := Tryz.zeroValue4
  t5 := Tryz.underlying5
  a5 := Tryz.isAgg5
  z5 := Tryz.sizeOf5
  v5 := Tryz.zeroValue5
  t9 := Tryz.underlying9
  a9 := Tryz.isAgg9
  z9 := Tryz.sizeOf9
  v9 := Tryz.zeroValue9
  t21 := Tryz.underlying21
  a21 := Tryz.isAgg21
  z21 := Tryz.sizeOf21
  v21 := Tryz.zeroValue21
  t37 := Tryz.underlying104
  a37 := Tryz.isAgg104
  z37 := Tryz.sizeOf104
  v37 := Tryz.zeroValue104
  t46 := Tryz.underlying106
  a46 := Tryz.isAgg106
  z46 := Tryz.sizeOf106
  v46 := Tryz.zeroValue106
  t53 := Tryz.underlying111
  a53 := Tryz.isAgg111
  z53 := Tryz.sizeOf111
  v53 := Tryz.zeroValue111
  t75 := Tryz.underlying79
  a75 := Tryz.isAgg79
  z75 := Tryz.sizeOf79
  v75 := Tryz.zeroValue79
  t167 := Tryz.underlying192
  a167 := Tryz.isAgg192
  z167 := Tryz.sizeOf192
  v167 := Tryz.zeroValue192 }
open Go.RowKit in
/-- internal/strconv.ParseUint(s, 10, 0), s NOT EMPTY: 'Lib.parseUint10 0' OF ITS BYTES: the number; or (0, ErrSyntax); or (the greatest uint64, ErrRange). The world behind the call: the one new row that '[]byte(s)' lays. (LAID: no walk: one application.) -/
theorem Tryz.internal_strconv_ParseUint_10 (t : ByteArray) (hne : t.size ≠ 0) (hmax : t.size ≤ 9223372036854775806) (w : World) :
    Calls Tryz.prog 151 #[.string t, .int .i64 10, .int .i64 0] w fun e w' => e = .returned (Lib.uintTuple 192 (Lib.parseUint10 0 t.data.toList)) ∧ w' = Lib.bytesWorld w 5 t := Any.internal_strconv_ParseUint_10 Tryz.lays287 t hne hmax w
open Go.RowKit in
/-- internal/strconv.ParseUint("", 10, 0): (0, ErrSyntax). The world is as it was. (LAID: no walk: one application.) -/
theorem Tryz.internal_strconv_ParseUint_10_empty (w : World) :
    Calls Tryz.prog 151 #[.string ⟨#[]⟩, .int .i64 10, .int .i64 0] w fun e w' => e = .returned (Lib.uintTuple 192 .syntax) ∧ w' = w := Any.internal_strconv_ParseUint_10_empty Tryz.lays287 w
open Go.RowKit in
/-- internal/strconv.ParseUint(s, 10, 0): 'Lib.parseMag' OF ITS BYTES. The world: as it was (the empty string), or with the one new row that '[]byte(s)' lays. (LAID: no walk: one application.) -/
theorem Tryz.internal_strconv_ParseUint_10_any (t : ByteArray) (hmax : t.size ≤ 9223372036854775806) (w : World) :
    Calls Tryz.prog 151 #[.string t, .int .i64 10, .int .i64 0] w fun e w' => e = .returned (Lib.uintTuple 192 (Lib.parseMag t.data.toList)) ∧ (w' = w ∨ w' = Lib.bytesWorld w 5 t) := Any.internal_strconv_ParseUint_10_any Tryz.lays287 t hmax w
def Tryz.laysC247_ren : Go.Shelf.Ren := ⟨fun | 247 => 131 | 287 => 151 | 321 => 185 | 322 => 186 | n => n, fun | 9 => 9 | 3 => 3 | 2 => 2 | 75 => 79 | 4 => 4 | 167 => 192 | 5 => 5 | 53 => 111 | 175 => 193 | 46 => 106 | 37 => 104 | 0 => 0 | 21 => 21 | 80 => 92 | n => n, fun | n => n⟩
theorem Tryz.laysC247 : Go.Proofs.LaysC.n247 Tryz.prog Tryz.laysC247_ren := {
  mixed := by kernel_rfl
  f247 := Tryz.func131.trans (congrArg some (by kernel_rfl))
  f287 := Tryz.func151.trans (congrArg some (by kernel_rfl))
  f321 := Tryz.func185.trans (congrArg some (by kernel_rfl))
  f322 := Tryz.func186.trans (congrArg some (by kernel_rfl))
  t0 := Tryz.underlying0
  a0 := Tryz.isAgg0
  z0 := Tryz.sizeOf0
  v0 := Tryz.zeroValue0
  t2 := Tryz.underlying2
  a2 := Tryz.isAgg2
  z2 := Tryz.sizeOf2
  v2 := Tryz.zeroValue2
  t3 := Tryz.underlying3
  a3 := Tryz.isAgg3
  z3 := Tryz.sizeOf3
  v3 := Tryz.zeroValue3
  t4 := Tryz.underlying4
  a4 := Tryz.isAgg4
  z4 := Tryz.sizeOf4
  v4 := Tryz.zeroValue4
  t5 := Tryz.underlying5
  a5 := Tryz.isAgg5
  z5 := Tryz.sizeOf5
  v5 := Tryz.zeroValue5
  t9 := Tryz.underlying9
  a9 := Tryz.isAgg9
  z9 := Tryz.sizeOf9
  v9 := Tryz.zeroValue9
  t21 := Tryz.underlying21
  a21 := Tryz.isAgg21
  z21 := Tryz.sizeOf21
  v21 := Tryz.zeroValue21
  t37 := Tryz.underlying104
  a37 := Tryz.isAgg104
  z37 := Tryz.sizeOf104
  v37 := Tryz.zeroValue104
  t46 := Tryz.underlying106
  a46 := Tryz.isAgg106
  z46 := Tryz.sizeOf106
  v46 := Tryz.zeroValue106
  t53 := Tryz.underlying111
  a53 := Tryz.isAgg111
  z53 := Tryz.sizeOf111
  v53 := Tryz.zeroValue111
  t75 := Tryz.underlying79
  a75 := Tryz.isAgg79
  z75 := Tryz.sizeOf79
  v75 := Tryz.zeroValue79
  t167 := Tryz.underlying192
  a167 := Tryz.isAgg192
  z167 := Tryz.sizeOf192
  v167 := Tryz.zeroValue192
  t175 := Tryz.underlying193
  a175 := Tryz.isAgg193
  z175 := Tryz.sizeOf193
  v175 := Tryz.zeroValue193
  t80 := Tryz.underlying92
  a80 := Tryz.isAgg92
  z80 := Tryz.sizeOf92
  v80 := Tryz.zeroValue92
  i0 := by kernel_rfl
  i2 := by kernel_rfl
  i3 := by kernel_rfl
  i4 := by kernel_rfl
  i5 := by kernel_rfl
  i9 := by kernel_rfl
  i21 := by kernel_rfl
  i37 := by kernel_rfl
  i46 := by kernel_rfl
  i53 := by kernel_rfl
  i75 := by kernel_rfl
  i80 := by kernel_rfl
  i167 := by kernel_rfl
  i175 := by kernel_rfl
  c0 := by kernel_rfl
  c2 := by kernel_rfl
  c3 := by kernel_rfl
  c4 := by kernel_rfl
  c5 := by kernel_rfl
  c9 := by kernel_rfl
  c21 := by kernel_rfl
  c37 := by kernel_rfl
  c46 := by kernel_rfl
  c53 := by kernel_rfl
  c75 := by kernel_rfl
  c80 := by kernel_rfl
  c167 := by kernel_rfl
  c175 := by kernel_rfl }
open Go.RowKit in
/-- internal/strconv.ParseInt(s, 10, 0), s NOT EMPTY: 'Lib.atoiAll' OF ITS BYTES: (the number, nil); (0, ErrSyntax); (the greatest or the least int64 by the sign, ErrRange). The world: as it was, or with the one new row that '[]byte(..)' lays. (LAID: no walk: one application.) -/
theorem Tryz.internal_strconv_ParseInt_10 (s : ByteArray) (hne : s.size ≠ 0) (hmax : s.size ≤ 9223372036854775806) (w : World) :
    Calls Tryz.prog 131 #[.string s, .int .i64 10, .int .i64 0] w fun e w' => e = .returned (Lib.intTuple 192 (Lib.atoiSat s.data.toList) (Lib.atoiAll s.data.toList)) ∧ (w' = w ∨ ∃ t, w' = Lib.bytesWorld w 5 t) := Any.internal_strconv_ParseInt_10 Tryz.laysC247 s hne hmax w
def Tryz.laysM280_ren : Go.Shelf.Ren := ⟨fun | 280 => 153 | 316 => 187 | n => n, fun | 9 => 9 | 168 => 195 | 75 => 79 | 210 => 224 | 3 => 3 | 4 => 4 | 37 => 104 | 0 => 0 | 127 => 191 | 80 => 92 | 5 => 5 | n => n, fun | 16 => 4 | n => n⟩
theorem Tryz.laysM280 : Go.Proofs.LaysM.n280 Tryz.prog Tryz.laysM280_ren := {
  mixed := by kernel_rfl
  f280 := Tryz.func153.trans (congrArg some (by kernel_rfl))
  f316 := Tryz.func187.trans (congrArg some (by kernel_rfl))
  t0 := Tryz.underlying0
  a0 := Tryz.isAgg0
  z0 := Tryz.sizeOf0
  v0 := Tryz.zeroValue0
  t3 := Tryz.underlying3
  a3 := Tryz.isAgg3
  z3 := Tryz.sizeOf3
  v3 := Tryz.zeroValue3
  t4 := Tryz.underlying4
  a4 := Tryz.isAgg4
  z4 := Tryz.sizeOf4
  v4 := Tryz.zeroValue4
  t9 := Tryz.underlying9
  a9 := Tryz.isAgg9
  z9 := Tryz.sizeOf9
  v9 := Tryz.zeroValue9
  t37 := Tryz.underlying104
  a37 := Tryz.isAgg104
  z37 := Tryz.sizeOf104
  v37 := Tryz.zeroValue104
  t75 := Tryz.underlying79
  a75 := Tryz.isAgg79
  z75 := Tryz.sizeOf79
  v75 := Tryz.zeroValue79
  t127 := Tryz.underlying191
  a127 := Tryz.isAgg191
  z127 := Tryz.sizeOf191
  v127 := Tryz.zeroValue191
  t168 := Tryz.underlying195
  a168 := Tryz.isAgg195
  z168 := Tryz.sizeOf195
  v168 := Tryz.zeroValue195
  t210 := Tryz.underlying224
  a210 := Tryz.isAgg224
  z210 := Tryz.sizeOf224
  v210 := Tryz.zeroValue224
  g16 := by kernel_rfl
  t5 := Tryz.underlying5
  a5 := Tryz.isAgg5
  z5 := Tryz.sizeOf5
  v5 := Tryz.zeroValue5
  t80 := Tryz.underlying92
  a80 := Tryz.isAgg92
  z80 := Tryz.sizeOf92
  v80 := Tryz.zeroValue92
  i0 := by kernel_rfl
  i3 := by kernel_rfl
  i4 := by kernel_rfl
  i5 := by kernel_rfl
  i9 := by kernel_rfl
  i37 := by kernel_rfl
  i75 := by kernel_rfl
  i80 := by kernel_rfl
  i127 := by kernel_rfl
  i168 := by kernel_rfl
  i210 := by kernel_rfl
  m16 := by kernel_rfl }
open Go.RowKit in
/-- strconv.rangeError: '&NumError{fn, stringslite.Clone(str), ErrRange}': A POINTER TO A NEW BLOCK that holds fn, str's bytes, and what the variable ErrRange holds. Of what was there nothing has turned. (LAID: no walk: one application.) -/
theorem Tryz.strconv_rangeError (fn s : ByteArray) (ev : Value) (w : World) (hlim : s.size ≤ 281474976710656) (hv : w.cell? ⟨4, 0, none⟩ = some ev) (hev : ev = .nilIface ∨ ∃ te pe, ev = .iface te pe) :
    Calls Tryz.prog 153 #[.string fn, .string s] w fun e w' => ∃ N, e = .returned (.pointer (some ⟨N, 0, none⟩)) ∧ w.heap.size ≤ N ∧ w'.heap[N]? = some (.cells #[.string fn, .string s, ev] 224 (0, 0)) ∧ Below w.heap.size w w' := Any.strconv_rangeError Tryz.laysM280 fn s ev w hlim hv hev
open Go.RowKit in
/-- strconv.toError, at the inner package's ErrRange: 'rangeError(fn, s)' as an error: A *NumError IN A NEW BLOCK. (LAID: no walk: one application.) -/
theorem Tryz.strconv_toError_range (fn s : ByteArray) (base bits : Int) (ev : Value) (w : World) (hlim : s.size ≤ 281474976710656) (hv : w.cell? ⟨4, 0, none⟩ = some ev) (hev : ev = .nilIface ∨ ∃ te pe, ev = .iface te pe) :
    Calls Tryz.prog 132 #[.string fn, .string s, .int .i64 base, .int .i64 bits, .iface 192 (.int .i64 1)] w fun e w' => ∃ N, e = .returned (.iface 195 (.pointer (some ⟨N, 0, none⟩))) ∧ w.heap.size ≤ N ∧ w'.heap[N]? = some (.cells #[.string fn, .string s, ev] 224 (0, 0)) ∧ Below w.heap.size w w' := Any.strconv_toError_range Tryz.laysC245 fn s base bits ev w hlim hv hev
open Go.RowKit in
/-- internal/strconv.ParseUint("", base, bitSize): (0, ErrSyntax): the first test of the text. The world is as it was. (LAID: no walk: one application.) -/
theorem Tryz.internal_strconv_ParseUint_empty (base bits : Int) (w : World) :
    Calls Tryz.prog 151 #[.string ⟨#[]⟩, .int .i64 base, .int .i64 bits] w fun e w' => e = .returned (.tuple #[.int .u64 0, .iface 192 (.int .i64 2)]) ∧ w' = w := Any.internal_strconv_ParseUint_empty Tryz.lays287 base bits w
open Go.RowKit in
/-- internal/strconv.ParseUint(s, 10, 64), s NOT EMPTY: 'Lib.parseUint10 0' OF ITS BYTES: the number; or (0, ErrSyntax); or (the greatest uint64, ErrRange). The world behind the call: the one new row that '[]byte(s)' lays. (LAID: no walk: one application.) -/
theorem Tryz.internal_strconv_ParseUint_10_b64 (t : ByteArray) (hne : t.size ≠ 0) (hmax : t.size ≤ 9223372036854775806) (w : World) :
    Calls Tryz.prog 151 #[.string t, .int .i64 10, .int .i64 64] w fun e w' => e = .returned (Lib.uintTuple 192 (Lib.parseUint10 0 t.data.toList)) ∧ w' = Lib.bytesWorld w 5 t := Any.internal_strconv_ParseUint_10_b64 Tryz.lays287 t hne hmax w
open Go.RowKit in
/-- internal/strconv.ParseUint(s, 10, 32), s NOT EMPTY: 'Lib.parseUintM 4294967295 0' OF ITS BYTES: the number; or (0, ErrSyntax); or (the greatest uint32, ErrRange). The world behind the call: the one new row that '[]byte(s)' lays. (LAID: no walk: one application.) -/
theorem Tryz.internal_strconv_ParseUint_10_b32 (t : ByteArray) (hne : t.size ≠ 0) (hmax : t.size ≤ 9223372036854775806) (w : World) :
    Calls Tryz.prog 151 #[.string t, .int .i64 10, .int .i64 32] w fun e w' => e = .returned (Lib.uintTupleM 192 4294967295 (Lib.parseUintM 4294967295 0 t.data.toList)) ∧ w' = Lib.bytesWorld w 5 t := Any.internal_strconv_ParseUint_10_b32 Tryz.lays287 t hne hmax w
open Go.RowKit in
/-- internal/strconv.ParseUint(s, 10, 16), s NOT EMPTY: 'Lib.parseUintM 65535 0' OF ITS BYTES: the number; or (0, ErrSyntax); or (the greatest uint16, ErrRange). The world behind the call: the one new row that '[]byte(s)' lays. (LAID: no walk: one application.) -/
theorem Tryz.internal_strconv_ParseUint_10_b16 (t : ByteArray) (hne : t.size ≠ 0) (hmax : t.size ≤ 9223372036854775806) (w : World) :
    Calls Tryz.prog 151 #[.string t, .int .i64 10, .int .i64 16] w fun e w' => e = .returned (Lib.uintTupleM 192 65535 (Lib.parseUintM 65535 0 t.data.toList)) ∧ w' = Lib.bytesWorld w 5 t := Any.internal_strconv_ParseUint_10_b16 Tryz.lays287 t hne hmax w
open Go.RowKit in
/-- internal/strconv.ParseUint(s, 10, 8), s NOT EMPTY: 'Lib.parseUintM 255 0' OF ITS BYTES: the number; or (0, ErrSyntax); or (the greatest uint8, ErrRange). The world behind the call: the one new row that '[]byte(s)' lays. (LAID: no walk: one application.) -/
theorem Tryz.internal_strconv_ParseUint_10_b8 (t : ByteArray) (hne : t.size ≠ 0) (hmax : t.size ≤ 9223372036854775806) (w : World) :
    Calls Tryz.prog 151 #[.string t, .int .i64 10, .int .i64 8] w fun e w' => e = .returned (Lib.uintTupleM 192 255 (Lib.parseUintM 255 0 t.data.toList)) ∧ w' = Lib.bytesWorld w 5 t := Any.internal_strconv_ParseUint_10_b8 Tryz.lays287 t hne hmax w
open Go.RowKit in
/-- internal/strconv.ParseUint(s, 10, 0): 'Lib.parseUintB 64' OF ITS BYTES. The world: as it was (the empty string), or with the one new row that '[]byte(s)' lays. (LAID: no walk: one application.) -/
theorem Tryz.internal_strconv_ParseUint_10_at0 (t : ByteArray) (hmax : t.size ≤ 9223372036854775806) (w : World) :
    Calls Tryz.prog 151 #[.string t, .int .i64 10, .int .i64 0] w fun e w' => e = .returned (Lib.uintTupleM 192 18446744073709551615 (Lib.parseUintB 64 t.data.toList)) ∧ (w' = w ∨ w' = Lib.bytesWorld w 5 t) := Any.internal_strconv_ParseUint_10_at0 Tryz.lays287 t hmax w
open Go.RowKit in
/-- internal/strconv.ParseUint(s, 10, 64): 'Lib.parseUintB 64' OF ITS BYTES. The world: as it was (the empty string), or with the one new row that '[]byte(s)' lays. (LAID: no walk: one application.) -/
theorem Tryz.internal_strconv_ParseUint_10_at64 (t : ByteArray) (hmax : t.size ≤ 9223372036854775806) (w : World) :
    Calls Tryz.prog 151 #[.string t, .int .i64 10, .int .i64 64] w fun e w' => e = .returned (Lib.uintTupleM 192 18446744073709551615 (Lib.parseUintB 64 t.data.toList)) ∧ (w' = w ∨ w' = Lib.bytesWorld w 5 t) := Any.internal_strconv_ParseUint_10_at64 Tryz.lays287 t hmax w
open Go.RowKit in
/-- internal/strconv.ParseUint(s, 10, 32): 'Lib.parseUintB 32' OF ITS BYTES. The world: as it was (the empty string), or with the one new row that '[]byte(s)' lays. (LAID: no walk: one application.) -/
theorem Tryz.internal_strconv_ParseUint_10_at32 (t : ByteArray) (hmax : t.size ≤ 9223372036854775806) (w : World) :
    Calls Tryz.prog 151 #[.string t, .int .i64 10, .int .i64 32] w fun e w' => e = .returned (Lib.uintTupleM 192 4294967295 (Lib.parseUintB 32 t.data.toList)) ∧ (w' = w ∨ w' = Lib.bytesWorld w 5 t) := Any.internal_strconv_ParseUint_10_at32 Tryz.lays287 t hmax w
open Go.RowKit in
/-- internal/strconv.ParseUint(s, 10, 16): 'Lib.parseUintB 16' OF ITS BYTES. The world: as it was (the empty string), or with the one new row that '[]byte(s)' lays. (LAID: no walk: one application.) -/
theorem Tryz.internal_strconv_ParseUint_10_at16 (t : ByteArray) (hmax : t.size ≤ 9223372036854775806) (w : World) :
    Calls Tryz.prog 151 #[.string t, .int .i64 10, .int .i64 16] w fun e w' => e = .returned (Lib.uintTupleM 192 65535 (Lib.parseUintB 16 t.data.toList)) ∧ (w' = w ∨ w' = Lib.bytesWorld w 5 t) := Any.internal_strconv_ParseUint_10_at16 Tryz.lays287 t hmax w
open Go.RowKit in
/-- internal/strconv.ParseUint(s, 10, 8): 'Lib.parseUintB 8' OF ITS BYTES. The world: as it was (the empty string), or with the one new row that '[]byte(s)' lays. (LAID: no walk: one application.) -/
theorem Tryz.internal_strconv_ParseUint_10_at8 (t : ByteArray) (hmax : t.size ≤ 9223372036854775806) (w : World) :
    Calls Tryz.prog 151 #[.string t, .int .i64 10, .int .i64 8] w fun e w' => e = .returned (Lib.uintTupleM 192 255 (Lib.parseUintB 8 t.data.toList)) ∧ (w' = w ∨ w' = Lib.bytesWorld w 5 t) := Any.internal_strconv_ParseUint_10_at8 Tryz.lays287 t hmax w
open Go.RowKit in
/-- internal/strconv.ParseInt(s, 10, 64), s NOT EMPTY: 'Lib.parseIntB 64' OF ITS BYTES: (the number, nil); (0, ErrSyntax); (the greatest or the least int64 by the sign, ErrRange). The world: as it was, or with the one new row that '[]byte(..)' lays. (LAID: no walk: one application.) -/
theorem Tryz.internal_strconv_ParseInt_10_at64 (s : ByteArray) (hne : s.size ≠ 0) (hmax : s.size ≤ 9223372036854775806) (w : World) :
    Calls Tryz.prog 131 #[.string s, .int .i64 10, .int .i64 64] w fun e w' => e = .returned (Lib.intTuple 192 (Lib.intSat 64 s.data.toList) (Lib.parseIntB 64 s.data.toList)) ∧ (w' = w ∨ ∃ t, w' = Lib.bytesWorld w 5 t) := Any.internal_strconv_ParseInt_10_at64 Tryz.laysC247 s hne hmax w
open Go.RowKit in
/-- internal/strconv.ParseInt(s, 10, 32), s NOT EMPTY: 'Lib.parseIntB 32' OF ITS BYTES: (the number, nil); (0, ErrSyntax); (the greatest or the least int32 by the sign, ErrRange). The world: as it was, or with the one new row that '[]byte(..)' lays. (LAID: no walk: one application.) -/
theorem Tryz.internal_strconv_ParseInt_10_at32 (s : ByteArray) (hne : s.size ≠ 0) (hmax : s.size ≤ 9223372036854775806) (w : World) :
    Calls Tryz.prog 131 #[.string s, .int .i64 10, .int .i64 32] w fun e w' => e = .returned (Lib.intTuple 192 (Lib.intSat 32 s.data.toList) (Lib.parseIntB 32 s.data.toList)) ∧ (w' = w ∨ ∃ t, w' = Lib.bytesWorld w 5 t) := Any.internal_strconv_ParseInt_10_at32 Tryz.laysC247 s hne hmax w
open Go.RowKit in
/-- internal/strconv.ParseInt(s, 10, 16), s NOT EMPTY: 'Lib.parseIntB 16' OF ITS BYTES: (the number, nil); (0, ErrSyntax); (the greatest or the least int16 by the sign, ErrRange). The world: as it was, or with the one new row that '[]byte(..)' lays. (LAID: no walk: one application.) -/
theorem Tryz.internal_strconv_ParseInt_10_at16 (s : ByteArray) (hne : s.size ≠ 0) (hmax : s.size ≤ 9223372036854775806) (w : World) :
    Calls Tryz.prog 131 #[.string s, .int .i64 10, .int .i64 16] w fun e w' => e = .returned (Lib.intTuple 192 (Lib.intSat 16 s.data.toList) (Lib.parseIntB 16 s.data.toList)) ∧ (w' = w ∨ ∃ t, w' = Lib.bytesWorld w 5 t) := Any.internal_strconv_ParseInt_10_at16 Tryz.laysC247 s hne hmax w
open Go.RowKit in
/-- internal/strconv.ParseInt(s, 10, 8), s NOT EMPTY: 'Lib.parseIntB 8' OF ITS BYTES: (the number, nil); (0, ErrSyntax); (the greatest or the least int8 by the sign, ErrRange). The world: as it was, or with the one new row that '[]byte(..)' lays. (LAID: no walk: one application.) -/
theorem Tryz.internal_strconv_ParseInt_10_at8 (s : ByteArray) (hne : s.size ≠ 0) (hmax : s.size ≤ 9223372036854775806) (w : World) :
    Calls Tryz.prog 131 #[.string s, .int .i64 10, .int .i64 8] w fun e w' => e = .returned (Lib.intTuple 192 (Lib.intSat 8 s.data.toList) (Lib.parseIntB 8 s.data.toList)) ∧ (w' = w ∨ ∃ t, w' = Lib.bytesWorld w 5 t) := Any.internal_strconv_ParseInt_10_at8 Tryz.laysC247 s hne hmax w
open Go.RowKit in
/-- internal/strconv.ParseInt(s, 10, 0), AT EVERY STRING: 'Lib.parseIntB 64' OF ITS BYTES. (LAID: no walk: one application.) -/
theorem Tryz.internal_strconv_ParseInt_10_all0 (s : ByteArray) (hmax : s.size ≤ 9223372036854775806) (w : World) :
    Calls Tryz.prog 131 #[.string s, .int .i64 10, .int .i64 0] w fun e w' => e = .returned (Lib.intTuple 192 (Lib.intSat 64 s.data.toList) (Lib.parseIntB 64 s.data.toList)) ∧ (w' = w ∨ ∃ t, w' = Lib.bytesWorld w 5 t) := Any.internal_strconv_ParseInt_10_all0 Tryz.laysC247 s hmax w
open Go.RowKit in
/-- internal/strconv.ParseInt(s, 10, 64), AT EVERY STRING: 'Lib.parseIntB 64' OF ITS BYTES. (LAID: no walk: one application.) -/
theorem Tryz.internal_strconv_ParseInt_10_all64 (s : ByteArray) (hmax : s.size ≤ 9223372036854775806) (w : World) :
    Calls Tryz.prog 131 #[.string s, .int .i64 10, .int .i64 64] w fun e w' => e = .returned (Lib.intTuple 192 (Lib.intSat 64 s.data.toList) (Lib.parseIntB 64 s.data.toList)) ∧ (w' = w ∨ ∃ t, w' = Lib.bytesWorld w 5 t) := Any.internal_strconv_ParseInt_10_all64 Tryz.laysC247 s hmax w
open Go.RowKit in
/-- internal/strconv.ParseInt(s, 10, 32), AT EVERY STRING: 'Lib.parseIntB 32' OF ITS BYTES. (LAID: no walk: one application.) -/
theorem Tryz.internal_strconv_ParseInt_10_all32 (s : ByteArray) (hmax : s.size ≤ 9223372036854775806) (w : World) :
    Calls Tryz.prog 131 #[.string s, .int .i64 10, .int .i64 32] w fun e w' => e = .returned (Lib.intTuple 192 (Lib.intSat 32 s.data.toList) (Lib.parseIntB 32 s.data.toList)) ∧ (w' = w ∨ ∃ t, w' = Lib.bytesWorld w 5 t) := Any.internal_strconv_ParseInt_10_all32 Tryz.laysC247 s hmax w
open Go.RowKit in
/-- internal/strconv.ParseInt(s, 10, 16), AT EVERY STRING: 'Lib.parseIntB 16' OF ITS BYTES. (LAID: no walk: one application.) -/
theorem Tryz.internal_strconv_ParseInt_10_all16 (s : ByteArray) (hmax : s.size ≤ 9223372036854775806) (w : World) :
    Calls Tryz.prog 131 #[.string s, .int .i64 10, .int .i64 16] w fun e w' => e = .returned (Lib.intTuple 192 (Lib.intSat 16 s.data.toList) (Lib.parseIntB 16 s.data.toList)) ∧ (w' = w ∨ ∃ t, w' = Lib.bytesWorld w 5 t) := Any.internal_strconv_ParseInt_10_all16 Tryz.laysC247 s hmax w
open Go.RowKit in
/-- internal/strconv.ParseInt(s, 10, 8), AT EVERY STRING: 'Lib.parseIntB 8' OF ITS BYTES. (LAID: no walk: one application.) -/
theorem Tryz.internal_strconv_ParseInt_10_all8 (s : ByteArray) (hmax : s.size ≤ 9223372036854775806) (w : World) :
    Calls Tryz.prog 131 #[.string s, .int .i64 10, .int .i64 8] w fun e w' => e = .returned (Lib.intTuple 192 (Lib.intSat 8 s.data.toList) (Lib.parseIntB 8 s.data.toList)) ∧ (w' = w ∨ ∃ t, w' = Lib.bytesWorld w 5 t) := Any.internal_strconv_ParseInt_10_all8 Tryz.laysC247 s hmax w
def Tryz.laysC174_ren : Go.Shelf.Ren := ⟨fun | 174 => 83 | 247 => 131 | 245 => 132 | 287 => 151 | 279 => 152 | 280 => 153 | 281 => 154 | 282 => 155 | 321 => 185 | 322 => 186 | 316 => 187 | 171 => 188 | 205 => 160 | 243 => 208 | 246 => 166 | 283 => 193 | 284 => 194 | 285 => 195 | 286 => 196 | 129 => 183 | 317 => 209 | 318 => 210 | 319 => 211 | 320 => 212 | 337 => 215 | 338 => 216 | n => n, fun | 9 => 9 | 3 => 3 | 2 => 2 | 75 => 79 | 85 => 132 | 4 => 4 | 167 => 192 | 5 => 5 | 53 => 111 | 175 => 193 | 46 => 106 | 168 => 195 | 37 => 104 | 0 => 0 | 210 => 224 | 21 => 21 | 127 => 191 | 145 => 229 | 143 => 227 | 171 => 231 | 173 => 233 | 212 => 254 | 51 => 205 | 20 => 20 | 213 => 255 | 232 => 264 | 233 => 180 | 80 => 92 | n => n, fun | 15 => 3 | 16 => 4 | 17 => 6 | 18 => 9 | 19 => 10 | n => n⟩
theorem Tryz.laysC174 : Go.Proofs.LaysC.n174 Tryz.prog Tryz.laysC174_ren := {
  mixed := by kernel_rfl
  f129 := Tryz.func183.trans (congrArg some (by kernel_rfl))
  f171 := Tryz.func188.trans (congrArg some (by kernel_rfl))
  f174 := Tryz.func83.trans (congrArg some (by kernel_rfl))
  f205 := Tryz.func160.trans (congrArg some (by kernel_rfl))
  f243 := Tryz.func208.trans (congrArg some (by kernel_rfl))
  f245 := Tryz.func132.trans (congrArg some (by kernel_rfl))
  f246 := Tryz.func166.trans (congrArg some (by kernel_rfl))
  f247 := Tryz.func131.trans (congrArg some (by kernel_rfl))
  f279 := Tryz.func152.trans (congrArg some (by kernel_rfl))
  f280 := Tryz.func153.trans (congrArg some (by kernel_rfl))
  f281 := Tryz.func154.trans (congrArg some (by kernel_rfl))
  f282 := Tryz.func155.trans (congrArg some (by kernel_rfl))
  f283 := Tryz.func193.trans (congrArg some (by kernel_rfl))
  f284 := Tryz.func194.trans (congrArg some (by kernel_rfl))
  f285 := Tryz.func195.trans (congrArg some (by kernel_rfl))
  f286 := Tryz.func196.trans (congrArg some (by kernel_rfl))
  f287 := Tryz.func151.trans (congrArg some (by kernel_rfl))
  f316 := Tryz.func187.trans (congrArg some (by kernel_rfl))
  f317 := Tryz.func209.trans (congrArg some (by kernel_rfl))
  f318 := Tryz.func210.trans (congrArg some (by kernel_rfl))
  f319 := Tryz.func211.trans (congrArg some (by kernel_rfl))
  f320 := Tryz.func212.trans (congrArg some (by kernel_rfl))
  f321 := Tryz.func185.trans (congrArg some (by kernel_rfl))
  f322 := Tryz.func186.trans (congrArg some (by kernel_rfl))
  f337 := Tryz.func215.trans (congrArg some (by kernel_rfl))
  f338 := Tryz.func216.trans (congrArg some (by kernel_rfl))
  t0 := Tryz.underlying0
  a0 := Tryz.isAgg0
  z0 := Tryz.sizeOf0
  v0 := Tryz.zeroValue0
  t2 := Tryz.underlying2
  a2 := Tryz.isAgg2
  z2 := Tryz.sizeOf2
  v2 := Tryz.zeroValue2
  t3 := Tryz.underlying3
  a3 := Tryz.isAgg3
  z3 := Tryz.sizeOf3
  v3 := Tryz.zeroValue3
  t4 := Tryz.underlying4
  a4 := Tryz.isAgg4
  z4 := Tryz.sizeOf4
  v4 := Tryz.zeroValue4
  t5 := Tryz.underlying5
  a5 := Tryz.isAgg5
  z5 := Tryz.sizeOf5
  v5 := Tryz.zeroValue5
  t9 := Tryz.underlying9
  a9 := Tryz.isAgg9
  z9 := Tryz.sizeOf9
  v9 := Tryz.zeroValue9
  t20 := Tryz.underlying20
  a20 := Tryz.isAgg20
  z20 := Tryz.sizeOf20
  v20 := Tryz.zeroValue20
  t21 := Tryz.underlying21
  a21 := Tryz.isAgg21
  z21 := Tryz.sizeOf21
  v21 := Tryz.zeroValue21
  t37 := Tryz.underlying104
  a37 := Tryz.isAgg104
  z37 := Tryz.sizeOf104
  v37 := Tryz.zeroValue104
  t46 := Tryz.underlying106
  a46 := Tryz.isAgg106
  z46 := Tryz.sizeOf106
  v46 := Tryz.zeroValue106
  t51 := Tryz.underlying205
  a51 := Tryz.isAgg205
  z51 := Tryz.sizeOf205
  v51 := Tryz.zeroValue205
  t53 := Tryz.underlying111
  a53 := Tryz.isAgg111
  z53 := Tryz.sizeOf111
  v53 := Tryz.zeroValue111
  t75 := Tryz.underlying79
  a75 := Tryz.isAgg79
  z75 := Tryz.sizeOf79
  v75 := Tryz.zeroValue79
  t85 := Tryz.underlying132
  a85 := Tryz.isAgg132
  z85 := Tryz.sizeOf132
  v85 := Tryz.zeroValue132
  t127 := Tryz.underlying191
  a127 := Tryz.isAgg191
  z127 := Tryz.sizeOf191
  v127 := Tryz.zeroValue191
  t143 := Tryz.underlying227
  a143 := Tryz.isAgg227
  z143 := Tryz.sizeOf227
  v143 := Tryz.zeroValue227
  t145 := Tryz.underlying229
  a145 := Tryz.isAgg229
  z145 := Tryz.sizeOf229
  v145 := Tryz.zeroValue229
  t167 := Tryz.underlying192
  a167 := Tryz.isAgg192
  z167 := Tryz.sizeOf192
  v167 := Tryz.zeroValue192
  t168 := Tryz.underlying195
  a168 := Tryz.isAgg195
  z168 := Tryz.sizeOf195
  v168 := Tryz.zeroValue195
  t171 := Tryz.underlying231
  a171 := Tryz.isAgg231
  z171 := Tryz.sizeOf231
  v171 := Tryz.zeroValue231
  t173 := Tryz.underlying233
  a173 := Tryz.isAgg233
  z173 := Tryz.sizeOf233
  v173 := Tryz.zeroValue233
  t175 := Tryz.underlying193
  a175 := Tryz.isAgg193
  z175 := Tryz.sizeOf193
  v175 := Tryz.zeroValue193
  t210 := Tryz.underlying224
  a210 := Tryz.isAgg224
  z210 := Tryz.sizeOf224
  v210 := Tryz.zeroValue224
  t212 := Tryz.underlying254
  a212 := Tryz.isAgg254
  z212 := Tryz.sizeOf254
  v212 := Tryz.zeroValue254
  t213 := Tryz.underlying255
  a213 := Tryz.isAgg255
  z213 := Tryz.sizeOf255
  t232 := Tryz.underlying264
  a232 := Tryz.isAgg264
  z232 := Tryz.sizeOf264
  v232 := Tryz.zeroValue264
  t233 := Tryz.underlying180
  a233 := Tryz.isAgg180
  z233 := Tryz.sizeOf180
  v233 := Tryz.zeroValue180
  g15 := by kernel_rfl
  g16 := by kernel_rfl
  g17 := by kernel_rfl
  g18 := by kernel_rfl
  g19 := by kernel_rfl
  t80 := Tryz.underlying92
  a80 := Tryz.isAgg92
  z80 := Tryz.sizeOf92
  v80 := Tryz.zeroValue92
  i0 := by kernel_rfl
  i2 := by kernel_rfl
  i3 := by kernel_rfl
  i4 := by kernel_rfl
  i5 := by kernel_rfl
  i9 := by kernel_rfl
  i20 := by kernel_rfl
  i21 := by kernel_rfl
  i37 := by kernel_rfl
  i46 := by kernel_rfl
  i51 := by kernel_rfl
  i53 := by kernel_rfl
  i75 := by kernel_rfl
  i80 := by kernel_rfl
  i85 := by kernel_rfl
  i127 := by kernel_rfl
  i143 := by kernel_rfl
  i145 := by kernel_rfl
  i167 := by kernel_rfl
  i168 := by kernel_rfl
  i171 := by kernel_rfl
  i173 := by kernel_rfl
  i175 := by kernel_rfl
  i210 := by kernel_rfl
  i212 := by kernel_rfl
  i232 := by kernel_rfl
  i233 := by kernel_rfl
  m15 := by kernel_rfl
  m16 := by kernel_rfl
  m17 := by kernel_rfl
  m18 := by kernel_rfl
  m19 := by kernel_rfl
  c0 := by kernel_rfl
  c2 := by kernel_rfl
  c3 := by kernel_rfl
  c4 := by kernel_rfl
  c5 := by kernel_rfl
  c9 := by kernel_rfl
  c20 := by kernel_rfl
  c21 := by kernel_rfl
  c37 := by kernel_rfl
  c46 := by kernel_rfl
  c51 := by kernel_rfl
  c53 := by kernel_rfl
  c75 := by kernel_rfl
  c80 := by kernel_rfl
  c85 := by kernel_rfl
  c127 := by kernel_rfl
  c143 := by kernel_rfl
  c145 := by kernel_rfl
  c167 := by kernel_rfl
  c168 := by kernel_rfl
  c171 := by kernel_rfl
  c173 := by kernel_rfl
  c175 := by kernel_rfl
  c210 := by kernel_rfl
  c212 := by kernel_rfl
  c213 := by kernel_rfl
  c232 := by kernel_rfl
  c233 := by kernel_rfl }
open Go.RowKit in
/-- strconv.ParseInt(s, 10, 0), AT EVERY STRING THAT SPELLS AN int64 ('Lib.parseIntB 64 s.data.toList = .ok v'): v, AND NO ERROR. (LAID: no walk: one application.) -/
theorem Tryz.strconv_ParseInt_10_at0_ok (s : ByteArray) (hmax : s.size ≤ 9223372036854775806) (v : Int) (h : Lib.parseIntB 64 s.data.toList = .ok v) (w : World) :
    Calls Tryz.prog 83 #[.string s, .int .i64 10, .int .i64 0] w fun e w' => e = .returned (.tuple #[.int .i64 v, .nilIface]) ∧ (w' = w ∨ ∃ t, w' = Lib.bytesWorld w 5 t) := Any.strconv_ParseInt_10_at0_ok Tryz.laysC174 s hmax v h w
open Go.RowKit in
/-- strconv.ParseInt(s, 10, 0), AT EVERY STRING THAT IS NO DECIMAL NUMERAL: 0, AND AN ERROR THAT IS NOT nil: a *NumError in a new block N: {Func: "ParseInt", Num: s's bytes, Err: what the variable ErrSyntax holds}. Of what was there nothing has turned. (LAID: no walk: one application.) -/
theorem Tryz.strconv_ParseInt_10_at0_syntax (s : ByteArray) (hlim : s.size ≤ 281474976710656) (h : Lib.parseIntB 64 s.data.toList = .«syntax») (ev : Value) (w : World) (hv : w.cell? ⟨3, 0, none⟩ = some ev) (hev : ev = .nilIface ∨ ∃ te pe, ev = .iface te pe) :
    Calls Tryz.prog 83 #[.string s, .int .i64 10, .int .i64 0] w fun e w' => ∃ N, e = .returned (.tuple #[.int .i64 (0), .iface 195 (.pointer (some ⟨N, 0, none⟩))]) ∧ w.heap.size ≤ N ∧ w'.heap[N]? = some (.cells #[.string ⟨#[80, 97, 114, 115, 101, 73, 110, 116]⟩, .string s, ev] 224 (0, 0)) ∧ Below w.heap.size w w' := Any.strconv_ParseInt_10_at0_syntax Tryz.laysC174 s hlim h ev w hv hev
open Go.RowKit in
/-- strconv.ParseInt(s, 10, 0), AT EVERY NUMERAL THAT NO int64 HOLDS: THE GREATEST OR THE LEAST int64, BY THE SIGN ('Lib.intSat 64'), AND AN ERROR THAT IS NOT nil: a *NumError in a new block N: {Func: "ParseInt", Num: s's bytes, Err: what the variable ErrRange holds}. Of what was there nothing has turned. (LAID: no walk: one application.) -/
theorem Tryz.strconv_ParseInt_10_at0_range (s : ByteArray) (hlim : s.size ≤ 281474976710656) (h : Lib.parseIntB 64 s.data.toList = .range) (ev : Value) (w : World) (hv : w.cell? ⟨4, 0, none⟩ = some ev) (hev : ev = .nilIface ∨ ∃ te pe, ev = .iface te pe) :
    Calls Tryz.prog 83 #[.string s, .int .i64 10, .int .i64 0] w fun e w' => ∃ N, e = .returned (.tuple #[.int .i64 (Lib.intSat 64 s.data.toList), .iface 195 (.pointer (some ⟨N, 0, none⟩))]) ∧ w.heap.size ≤ N ∧ w'.heap[N]? = some (.cells #[.string ⟨#[80, 97, 114, 115, 101, 73, 110, 116]⟩, .string s, ev] 224 (0, 0)) ∧ Below w.heap.size w w' := Any.strconv_ParseInt_10_at0_range Tryz.laysC174 s hlim h ev w hv hev
open Go.RowKit in
/-- strconv.ParseInt(s, 10, 64), AT EVERY STRING THAT SPELLS AN int64 ('Lib.parseIntB 64 s.data.toList = .ok v'): v, AND NO ERROR. (LAID: no walk: one application.) -/
theorem Tryz.strconv_ParseInt_10_at64_ok (s : ByteArray) (hmax : s.size ≤ 9223372036854775806) (v : Int) (h : Lib.parseIntB 64 s.data.toList = .ok v) (w : World) :
    Calls Tryz.prog 83 #[.string s, .int .i64 10, .int .i64 64] w fun e w' => e = .returned (.tuple #[.int .i64 v, .nilIface]) ∧ (w' = w ∨ ∃ t, w' = Lib.bytesWorld w 5 t) := Any.strconv_ParseInt_10_at64_ok Tryz.laysC174 s hmax v h w
open Go.RowKit in
/-- strconv.ParseInt(s, 10, 64), AT EVERY STRING THAT IS NO DECIMAL NUMERAL: 0, AND AN ERROR THAT IS NOT nil: a *NumError in a new block N: {Func: "ParseInt", Num: s's bytes, Err: what the variable ErrSyntax holds}. Of what was there nothing has turned. (LAID: no walk: one application.) -/
theorem Tryz.strconv_ParseInt_10_at64_syntax (s : ByteArray) (hlim : s.size ≤ 281474976710656) (h : Lib.parseIntB 64 s.data.toList = .«syntax») (ev : Value) (w : World) (hv : w.cell? ⟨3, 0, none⟩ = some ev) (hev : ev = .nilIface ∨ ∃ te pe, ev = .iface te pe) :
    Calls Tryz.prog 83 #[.string s, .int .i64 10, .int .i64 64] w fun e w' => ∃ N, e = .returned (.tuple #[.int .i64 (0), .iface 195 (.pointer (some ⟨N, 0, none⟩))]) ∧ w.heap.size ≤ N ∧ w'.heap[N]? = some (.cells #[.string ⟨#[80, 97, 114, 115, 101, 73, 110, 116]⟩, .string s, ev] 224 (0, 0)) ∧ Below w.heap.size w w' := Any.strconv_ParseInt_10_at64_syntax Tryz.laysC174 s hlim h ev w hv hev
open Go.RowKit in
/-- strconv.ParseInt(s, 10, 64), AT EVERY NUMERAL THAT NO int64 HOLDS: THE GREATEST OR THE LEAST int64, BY THE SIGN ('Lib.intSat 64'), AND AN ERROR THAT IS NOT nil: a *NumError in a new block N: {Func: "ParseInt", Num: s's bytes, Err: what the variable ErrRange holds}. Of what was there nothing has turned. (LAID: no walk: one application.) -/
theorem Tryz.strconv_ParseInt_10_at64_range (s : ByteArray) (hlim : s.size ≤ 281474976710656) (h : Lib.parseIntB 64 s.data.toList = .range) (ev : Value) (w : World) (hv : w.cell? ⟨4, 0, none⟩ = some ev) (hev : ev = .nilIface ∨ ∃ te pe, ev = .iface te pe) :
    Calls Tryz.prog 83 #[.string s, .int .i64 10, .int .i64 64] w fun e w' => ∃ N, e = .returned (.tuple #[.int .i64 (Lib.intSat 64 s.data.toList), .iface 195 (.pointer (some ⟨N, 0, none⟩))]) ∧ w.heap.size ≤ N ∧ w'.heap[N]? = some (.cells #[.string ⟨#[80, 97, 114, 115, 101, 73, 110, 116]⟩, .string s, ev] 224 (0, 0)) ∧ Below w.heap.size w w' := Any.strconv_ParseInt_10_at64_range Tryz.laysC174 s hlim h ev w hv hev
open Go.RowKit in
/-- strconv.ParseInt(s, 10, 32), AT EVERY STRING THAT SPELLS AN int32 ('Lib.parseIntB 32 s.data.toList = .ok v'): v, AND NO ERROR. (LAID: no walk: one application.) -/
theorem Tryz.strconv_ParseInt_10_at32_ok (s : ByteArray) (hmax : s.size ≤ 9223372036854775806) (v : Int) (h : Lib.parseIntB 32 s.data.toList = .ok v) (w : World) :
    Calls Tryz.prog 83 #[.string s, .int .i64 10, .int .i64 32] w fun e w' => e = .returned (.tuple #[.int .i64 v, .nilIface]) ∧ (w' = w ∨ ∃ t, w' = Lib.bytesWorld w 5 t) := Any.strconv_ParseInt_10_at32_ok Tryz.laysC174 s hmax v h w
open Go.RowKit in
/-- strconv.ParseInt(s, 10, 32), AT EVERY STRING THAT IS NO DECIMAL NUMERAL: 0, AND AN ERROR THAT IS NOT nil: a *NumError in a new block N: {Func: "ParseInt", Num: s's bytes, Err: what the variable ErrSyntax holds}. Of what was there nothing has turned. (LAID: no walk: one application.) -/
theorem Tryz.strconv_ParseInt_10_at32_syntax (s : ByteArray) (hlim : s.size ≤ 281474976710656) (h : Lib.parseIntB 32 s.data.toList = .«syntax») (ev : Value) (w : World) (hv : w.cell? ⟨3, 0, none⟩ = some ev) (hev : ev = .nilIface ∨ ∃ te pe, ev = .iface te pe) :
    Calls Tryz.prog 83 #[.string s, .int .i64 10, .int .i64 32] w fun e w' => ∃ N, e = .returned (.tuple #[.int .i64 (0), .iface 195 (.pointer (some ⟨N, 0, none⟩))]) ∧ w.heap.size ≤ N ∧ w'.heap[N]? = some (.cells #[.string ⟨#[80, 97, 114, 115, 101, 73, 110, 116]⟩, .string s, ev] 224 (0, 0)) ∧ Below w.heap.size w w' := Any.strconv_ParseInt_10_at32_syntax Tryz.laysC174 s hlim h ev w hv hev
open Go.RowKit in
/-- strconv.ParseInt(s, 10, 32), AT EVERY NUMERAL THAT NO int32 HOLDS: THE GREATEST OR THE LEAST int32, BY THE SIGN ('Lib.intSat 32'), AND AN ERROR THAT IS NOT nil: a *NumError in a new block N: {Func: "ParseInt", Num: s's bytes, Err: what the variable ErrRange holds}. Of what was there nothing has turned. (LAID: no walk: one application.) -/
theorem Tryz.strconv_ParseInt_10_at32_range (s : ByteArray) (hlim : s.size ≤ 281474976710656) (h : Lib.parseIntB 32 s.data.toList = .range) (ev : Value) (w : World) (hv : w.cell? ⟨4, 0, none⟩ = some ev) (hev : ev = .nilIface ∨ ∃ te pe, ev = .iface te pe) :
    Calls Tryz.prog 83 #[.string s, .int .i64 10, .int .i64 32] w fun e w' => ∃ N, e = .returned (.tuple #[.int .i64 (Lib.intSat 32 s.data.toList), .iface 195 (.pointer (some ⟨N, 0, none⟩))]) ∧ w.heap.size ≤ N ∧ w'.heap[N]? = some (.cells #[.string ⟨#[80, 97, 114, 115, 101, 73, 110, 116]⟩, .string s, ev] 224 (0, 0)) ∧ Below w.heap.size w w' := Any.strconv_ParseInt_10_at32_range Tryz.laysC174 s hlim h ev w hv hev
open Go.RowKit in
/-- strconv.ParseInt(s, 10, 16), AT EVERY STRING THAT SPELLS AN int16 ('Lib.parseIntB 16 s.data.toList = .ok v'): v, AND NO ERROR. (LAID: no walk: one application.) -/
theorem Tryz.strconv_ParseInt_10_at16_ok (s : ByteArray) (hmax : s.size ≤ 9223372036854775806) (v : Int) (h : Lib.parseIntB 16 s.data.toList = .ok v) (w : World) :
    Calls Tryz.prog 83 #[.string s, .int .i64 10, .int .i64 16] w fun e w' => e = .returned (.tuple #[.int .i64 v, .nilIface]) ∧ (w' = w ∨ ∃ t, w' = Lib.bytesWorld w 5 t) := Any.strconv_ParseInt_10_at16_ok Tryz.laysC174 s hmax v h w
open Go.RowKit in
/-- strconv.ParseInt(s, 10, 16), AT EVERY STRING THAT IS NO DECIMAL NUMERAL: 0, AND AN ERROR THAT IS NOT nil: a *NumError in a new block N: {Func: "ParseInt", Num: s's bytes, Err: what the variable ErrSyntax holds}. Of what was there nothing has turned. (LAID: no walk: one application.) -/
theorem Tryz.strconv_ParseInt_10_at16_syntax (s : ByteArray) (hlim : s.size ≤ 281474976710656) (h : Lib.parseIntB 16 s.data.toList = .«syntax») (ev : Value) (w : World) (hv : w.cell? ⟨3, 0, none⟩ = some ev) (hev : ev = .nilIface ∨ ∃ te pe, ev = .iface te pe) :
    Calls Tryz.prog 83 #[.string s, .int .i64 10, .int .i64 16] w fun e w' => ∃ N, e = .returned (.tuple #[.int .i64 (0), .iface 195 (.pointer (some ⟨N, 0, none⟩))]) ∧ w.heap.size ≤ N ∧ w'.heap[N]? = some (.cells #[.string ⟨#[80, 97, 114, 115, 101, 73, 110, 116]⟩, .string s, ev] 224 (0, 0)) ∧ Below w.heap.size w w' := Any.strconv_ParseInt_10_at16_syntax Tryz.laysC174 s hlim h ev w hv hev
open Go.RowKit in
/-- strconv.ParseInt(s, 10, 16), AT EVERY NUMERAL THAT NO int16 HOLDS: THE GREATEST OR THE LEAST int16, BY THE SIGN ('Lib.intSat 16'), AND AN ERROR THAT IS NOT nil: a *NumError in a new block N: {Func: "ParseInt", Num: s's bytes, Err: what the variable ErrRange holds}. Of what was there nothing has turned. (LAID: no walk: one application.) -/
theorem Tryz.strconv_ParseInt_10_at16_range (s : ByteArray) (hlim : s.size ≤ 281474976710656) (h : Lib.parseIntB 16 s.data.toList = .range) (ev : Value) (w : World) (hv : w.cell? ⟨4, 0, none⟩ = some ev) (hev : ev = .nilIface ∨ ∃ te pe, ev = .iface te pe) :
    Calls Tryz.prog 83 #[.string s, .int .i64 10, .int .i64 16] w fun e w' => ∃ N, e = .returned (.tuple #[.int .i64 (Lib.intSat 16 s.data.toList), .iface 195 (.pointer (some ⟨N, 0, none⟩))]) ∧ w.heap.size ≤ N ∧ w'.heap[N]? = some (.cells #[.string ⟨#[80, 97, 114, 115, 101, 73, 110, 116]⟩, .string s, ev] 224 (0, 0)) ∧ Below w.heap.size w w' := Any.strconv_ParseInt_10_at16_range Tryz.laysC174 s hlim h ev w hv hev
open Go.RowKit in
/-- strconv.ParseInt(s, 10, 8), AT EVERY STRING THAT SPELLS AN int8 ('Lib.parseIntB 8 s.data.toList = .ok v'): v, AND NO ERROR. (LAID: no walk: one application.) -/
theorem Tryz.strconv_ParseInt_10_at8_ok (s : ByteArray) (hmax : s.size ≤ 9223372036854775806) (v : Int) (h : Lib.parseIntB 8 s.data.toList = .ok v) (w : World) :
    Calls Tryz.prog 83 #[.string s, .int .i64 10, .int .i64 8] w fun e w' => e = .returned (.tuple #[.int .i64 v, .nilIface]) ∧ (w' = w ∨ ∃ t, w' = Lib.bytesWorld w 5 t) := Any.strconv_ParseInt_10_at8_ok Tryz.laysC174 s hmax v h w
open Go.RowKit in
/-- strconv.ParseInt(s, 10, 8), AT EVERY STRING THAT IS NO DECIMAL NUMERAL: 0, AND AN ERROR THAT IS NOT nil: a *NumError in a new block N: {Func: "ParseInt", Num: s's bytes, Err: what the variable ErrSyntax holds}. Of what was there nothing has turned. (LAID: no walk: one application.) -/
theorem Tryz.strconv_ParseInt_10_at8_syntax (s : ByteArray) (hlim : s.size ≤ 281474976710656) (h : Lib.parseIntB 8 s.data.toList = .«syntax») (ev : Value) (w : World) (hv : w.cell? ⟨3, 0, none⟩ = some ev) (hev : ev = .nilIface ∨ ∃ te pe, ev = .iface te pe) :
    Calls Tryz.prog 83 #[.string s, .int .i64 10, .int .i64 8] w fun e w' => ∃ N, e = .returned (.tuple #[.int .i64 (0), .iface 195 (.pointer (some ⟨N, 0, none⟩))]) ∧ w.heap.size ≤ N ∧ w'.heap[N]? = some (.cells #[.string ⟨#[80, 97, 114, 115, 101, 73, 110, 116]⟩, .string s, ev] 224 (0, 0)) ∧ Below w.heap.size w w' := Any.strconv_ParseInt_10_at8_syntax Tryz.laysC174 s hlim h ev w hv hev
open Go.RowKit in
/-- strconv.ParseInt(s, 10, 8), AT EVERY NUMERAL THAT NO int8 HOLDS: THE GREATEST OR THE LEAST int8, BY THE SIGN ('Lib.intSat 8'), AND AN ERROR THAT IS NOT nil: a *NumError in a new block N: {Func: "ParseInt", Num: s's bytes, Err: what the variable ErrRange holds}. Of what was there nothing has turned. (LAID: no walk: one application.) -/
theorem Tryz.strconv_ParseInt_10_at8_range (s : ByteArray) (hlim : s.size ≤ 281474976710656) (h : Lib.parseIntB 8 s.data.toList = .range) (ev : Value) (w : World) (hv : w.cell? ⟨4, 0, none⟩ = some ev) (hev : ev = .nilIface ∨ ∃ te pe, ev = .iface te pe) :
    Calls Tryz.prog 83 #[.string s, .int .i64 10, .int .i64 8] w fun e w' => ∃ N, e = .returned (.tuple #[.int .i64 (Lib.intSat 8 s.data.toList), .iface 195 (.pointer (some ⟨N, 0, none⟩))]) ∧ w.heap.size ≤ N ∧ w'.heap[N]? = some (.cells #[.string ⟨#[80, 97, 114, 115, 101, 73, 110, 116]⟩, .string s, ev] 224 (0, 0)) ∧ Below w.heap.size w w' := Any.strconv_ParseInt_10_at8_range Tryz.laysC174 s hlim h ev w hv hev
def Tryz.lays217_ren : Go.Shelf.Ren := ⟨fun | 217 => 137 | 266 => 157 | n => n, fun | 9 => 9 | 5 => 5 | 3 => 3 | n => n, fun | n => n⟩
theorem Tryz.lays217 : Go.Proofs.Lays.n217 Tryz.prog Tryz.lays217_ren := {
  mixed := by kernel_rfl
  f217 := Tryz.func137.trans (congrArg some (by kernel_rfl))
  f266 := Tryz.func157.trans (congrArg some (by kernel_rfl))
  t3 := Tryz.underlying3
  a3 := Tryz.isAgg3
  z3 := Tryz.sizeOf3
  v3 := Tryz.zeroValue3
  t5 := Tryz.underlying5
  a5 := Tryz.isAgg5
  z5 := Tryz.sizeOf5
  v5 := Tryz.zeroValue5
  t9 := Tryz.underlying9
  a9 := Tryz.isAgg9
  z9 := Tryz.sizeOf9
  v9 := Tryz.zeroValue9 }
open Go.RowKit Go.Lib in
/-- internal/stringslite.IndexByte (what strings.IndexByte calls): IT RETURNS 'Lib.indexByte s c'; the world is as it was. (LAID: no walk: one application.) -/
theorem Tryz.stringslite_IndexByte (s : ByteArray) (c : Int) (w : World) :
    Calls Tryz.prog 137 #[.string s, .int .u8 c] w fun e w' => e = .returned (.int .i64 (Lib.indexByte s.data.toList c.toNat.toUInt8)) ∧ w' = w := Any.stringslite_IndexByte Tryz.lays217 s c w
def Tryz.lays199_ren : Go.Shelf.Ren := ⟨fun | 199 => 146 | 261 => 170 | 311 => 198 | 312 => 199 | n => n, fun | 21 => 21 | 4 => 4 | 51 => 205 | 141 => 207 | 0 => 0 | 196 => 238 | 193 => 235 | 3 => 3 | 198 => 241 | 49 => 239 | 194 => 236 | 201 => 244 | 226 => 256 | 46 => 106 | 227 => 257 | n => n, fun | 6 => 2 | n => n⟩
theorem Tryz.lays199 : Go.Proofs.Lays.n199 Tryz.prog Tryz.lays199_ren := {
  mixed := by kernel_rfl
  f199 := Tryz.func146.trans (congrArg some (by kernel_rfl))
  f261 := Tryz.func170.trans (congrArg some (by kernel_rfl))
  f311 := Tryz.func198.trans (congrArg some (by kernel_rfl))
  f312 := Tryz.func199.trans (congrArg some (by kernel_rfl))
  t0 := Tryz.underlying0
  a0 := Tryz.isAgg0
  z0 := Tryz.sizeOf0
  v0 := Tryz.zeroValue0
  t3 := Tryz.underlying3
  a3 := Tryz.isAgg3
  z3 := Tryz.sizeOf3
  v3 := Tryz.zeroValue3
  t4 := Tryz.underlying4
  a4 := Tryz.isAgg4
  z4 := Tryz.sizeOf4
  v4 := Tryz.zeroValue4
  t21 := Tryz.underlying21
  a21 := Tryz.isAgg21
  z21 := Tryz.sizeOf21
  v21 := Tryz.zeroValue21
  t46 := Tryz.underlying106
  a46 := Tryz.isAgg106
  z46 := Tryz.sizeOf106
  v46 := Tryz.zeroValue106
  t49 := Tryz.underlying239
  a49 := Tryz.isAgg239
  z49 := Tryz.sizeOf239
  v49 := Tryz.zeroValue239
  t51 := Tryz.underlying205
  a51 := Tryz.isAgg205
  z51 := Tryz.sizeOf205
  v51 := Tryz.zeroValue205
  t141 := Tryz.underlying207
  a141 := Tryz.isAgg207
  z141 := Tryz.sizeOf207
  v141 := Tryz.zeroValue207
  t193 := Tryz.underlying235
  a193 := Tryz.isAgg235
  z193 := Tryz.sizeOf235
  v193 := Tryz.zeroValue235
  t194 := Tryz.underlying236
  a194 := Tryz.isAgg236
  z194 := Tryz.sizeOf236
  v194 := Tryz.zeroValue236
  t196 := Tryz.underlying238
  a196 := Tryz.isAgg238
  z196 := Tryz.sizeOf238
  v196 := Tryz.zeroValue238
  t198 := Tryz.underlying241
  a198 := Tryz.isAgg241
  z198 := Tryz.sizeOf241
  v198 := Tryz.zeroValue241
  t201 := Tryz.underlying244
  a201 := Tryz.isAgg244
  z201 := Tryz.sizeOf244
  v201 := Tryz.zeroValue244
  t226 := Tryz.underlying256
  a226 := Tryz.isAgg256
  z226 := Tryz.sizeOf256
  v226 := Tryz.zeroValue256
  t227 := Tryz.underlying257
  a227 := Tryz.isAgg257
  z227 := Tryz.sizeOf257
  v227 := Tryz.zeroValue257
  g6 := by kernel_rfl }
open Go.RowKit Go.Lib in
theorem Tryz.unicode_IsSpace (r : Int) (w : World) (h0 : 0 ≤ r) (h : r ≤ 255) :
    Calls Tryz.prog 146 #[.int .i32 r] w fun e w' => e = .returned (.bool (Lib.isSpaceL r)) ∧ w' = w := Any.unicode_IsSpace Tryz.lays199 r w h0 h
def Tryz.lays260_ren : Go.Shelf.Ren := ⟨fun | 260 => 201 | n => n, fun | 9 => 9 | 21 => 21 | 3 => 3 | 4 => 4 | 5 => 5 | 119 => 188 | 0 => 0 | 46 => 106 | 139 => 260 | 138 => 259 | n => n, fun | 3 => 7 | 4 => 8 | n => n⟩
theorem Tryz.lays260 : Go.Proofs.Lays.n260 Tryz.prog Tryz.lays260_ren := {
  mixed := by kernel_rfl
  f260 := Tryz.func201.trans (congrArg some (by kernel_rfl))
  t0 := Tryz.underlying0
  a0 := Tryz.isAgg0
  z0 := Tryz.sizeOf0
  v0 := Tryz.zeroValue0
  t3 := Tryz.underlying3
  a3 := Tryz.isAgg3
  z3 := Tryz.sizeOf3
  v3 := Tryz.zeroValue3
  t4 := Tryz.underlying4
  a4 := Tryz.isAgg4
  z4 := Tryz.sizeOf4
  v4 := Tryz.zeroValue4
  t5 := Tryz.underlying5
  a5 := Tryz.isAgg5
  z5 := Tryz.sizeOf5
  v5 := Tryz.zeroValue5
  t9 := Tryz.underlying9
  a9 := Tryz.isAgg9
  z9 := Tryz.sizeOf9
  v9 := Tryz.zeroValue9
  t21 := Tryz.underlying21
  a21 := Tryz.isAgg21
  z21 := Tryz.sizeOf21
  v21 := Tryz.zeroValue21
  t46 := Tryz.underlying106
  a46 := Tryz.isAgg106
  z46 := Tryz.sizeOf106
  v46 := Tryz.zeroValue106
  t119 := Tryz.underlying188
  a119 := Tryz.isAgg188
  z119 := Tryz.sizeOf188
  t138 := Tryz.underlying259
  a138 := Tryz.isAgg259
  z138 := Tryz.sizeOf259
  v138 := Tryz.zeroValue259
  t139 := Tryz.underlying260
  a139 := Tryz.isAgg260
  z139 := Tryz.sizeOf260
  v139 := Tryz.zeroValue260
  g3 := by kernel_rfl
  g4 := by kernel_rfl }
open Go.RowKit Go.Lib in
theorem Tryz.utf8_decodeRuneInStringSlow (s : ByteArray) (w : World) (hT : Lib.Utf8Tabs 7 8 w) :
    Calls Tryz.prog 201 #[.string s] w fun e w' => e = .returned (.tuple #[.int .i32 (Lib.decodeGo s).1, .int .i64 (Lib.decodeGo s).2]) ∧ Below w.heap.size w w' := Any.utf8_decodeRuneInStringSlow Tryz.lays260 s w hT
def Tryz.lays197_ren : Go.Shelf.Ren := ⟨fun | 197 => 172 | 260 => 201 | n => n, fun | 9 => 9 | 21 => 21 | 3 => 3 | 4 => 4 | 5 => 5 | 105 => 209 | 119 => 188 | 0 => 0 | 46 => 106 | 139 => 260 | 138 => 259 | n => n, fun | 3 => 7 | 4 => 8 | n => n⟩
theorem Tryz.lays197 : Go.Proofs.Lays.n197 Tryz.prog Tryz.lays197_ren := {
  mixed := by kernel_rfl
  f197 := Tryz.func172.trans (congrArg some (by kernel_rfl))
  f260 := Tryz.func201.trans (congrArg some (by kernel_rfl))
  t0 := Tryz.underlying0
  a0 := Tryz.isAgg0
  z0 := Tryz.sizeOf0
  v0 := Tryz.zeroValue0
  t3 := Tryz.underlying3
  a3 := Tryz.isAgg3
  z3 := Tryz.sizeOf3
  v3 := Tryz.zeroValue3
  t4 := Tryz.underlying4
  a4 := Tryz.isAgg4
  z4 := Tryz.sizeOf4
  v4 := Tryz.zeroValue4
  t5 := Tryz.underlying5
  a5 := Tryz.isAgg5
  z5 := Tryz.sizeOf5
  v5 := Tryz.zeroValue5
  t9 := Tryz.underlying9
  a9 := Tryz.isAgg9
  z9 := Tryz.sizeOf9
  v9 := Tryz.zeroValue9
  t21 := Tryz.underlying21
  a21 := Tryz.isAgg21
  z21 := Tryz.sizeOf21
  v21 := Tryz.zeroValue21
  t46 := Tryz.underlying106
  a46 := Tryz.isAgg106
  z46 := Tryz.sizeOf106
  v46 := Tryz.zeroValue106
  t105 := Tryz.underlying209
  a105 := Tryz.isAgg209
  z105 := Tryz.sizeOf209
  v105 := Tryz.zeroValue209
  t119 := Tryz.underlying188
  a119 := Tryz.isAgg188
  z119 := Tryz.sizeOf188
  t138 := Tryz.underlying259
  a138 := Tryz.isAgg259
  z138 := Tryz.sizeOf259
  v138 := Tryz.zeroValue259
  t139 := Tryz.underlying260
  a139 := Tryz.isAgg260
  z139 := Tryz.sizeOf260
  v139 := Tryz.zeroValue260
  g3 := by kernel_rfl
  g4 := by kernel_rfl }
open Go.RowKit Go.Lib in
/-- **unicode/utf8.DecodeRuneInString AT EVERY STRING.** (LAID: no walk: one application.) -/
theorem Tryz.utf8_DecodeRuneInString (s : ByteArray) (w : World) (hT : Lib.Utf8Tabs 7 8 w) :
    Calls Tryz.prog 172 #[.string s] w fun e w' => e = .returned (.tuple #[.int .i32 (Lib.decodeGo s).1, .int .i64 (Lib.decodeGo s).2]) ∧ Below w.heap.size w w' := Any.utf8_DecodeRuneInString Tryz.lays197 s w hT
def Tryz.lays311_ren : Go.Shelf.Ren := ⟨fun | 311 => 198 | n => n, fun | 193 => 235 | 49 => 239 | 4 => 4 | 3 => 3 | 0 => 0 | 226 => 256 | 198 => 241 | 46 => 106 | n => n, fun | n => n⟩
theorem Tryz.lays311 : Go.Proofs.Lays.n311 Tryz.prog Tryz.lays311_ren := {
  mixed := by kernel_rfl
  f311 := Tryz.func198.trans (congrArg some (by kernel_rfl))
  t0 := Tryz.underlying0
  a0 := Tryz.isAgg0
  z0 := Tryz.sizeOf0
  v0 := Tryz.zeroValue0
  t3 := Tryz.underlying3
  a3 := Tryz.isAgg3
  z3 := Tryz.sizeOf3
  v3 := Tryz.zeroValue3
  t4 := Tryz.underlying4
  a4 := Tryz.isAgg4
  z4 := Tryz.sizeOf4
  v4 := Tryz.zeroValue4
  t46 := Tryz.underlying106
  a46 := Tryz.isAgg106
  z46 := Tryz.sizeOf106
  v46 := Tryz.zeroValue106
  t49 := Tryz.underlying239
  a49 := Tryz.isAgg239
  z49 := Tryz.sizeOf239
  v49 := Tryz.zeroValue239
  t193 := Tryz.underlying235
  a193 := Tryz.isAgg235
  z193 := Tryz.sizeOf235
  v193 := Tryz.zeroValue235
  t198 := Tryz.underlying241
  a198 := Tryz.isAgg241
  z198 := Tryz.sizeOf241
  v198 := Tryz.zeroValue241
  t226 := Tryz.underlying256
  a226 := Tryz.isAgg256
  z226 := Tryz.sizeOf256
  v226 := Tryz.zeroValue256 }
open Go.RowKit Go.Lib in
theorem Tryz.unicode_is16_white (R oR : Nat) (z : Nat) (w : World) (hz : z < 65536) (hz0 : 255 < z) (c6 : w.cell? ⟨R, oR + 6, none⟩ = some (.int .u16 160)) (c7 : w.cell? ⟨R, oR + 7, none⟩ = some (.int .u16 5760)) (c8 : w.cell? ⟨R, oR + 8, none⟩ = some (.int .u16 5600)) (c9 : w.cell? ⟨R, oR + 9, none⟩ = some (.int .u16 8192)) (c10 : w.cell? ⟨R, oR + 10, none⟩ = some (.int .u16 8202)) (c11 : w.cell? ⟨R, oR + 11, none⟩ = some (.int .u16 1)) (c12 : w.cell? ⟨R, oR + 12, none⟩ = some (.int .u16 8232)) (c13 : w.cell? ⟨R, oR + 13, none⟩ = some (.int .u16 8233)) (c14 : w.cell? ⟨R, oR + 14, none⟩ = some (.int .u16 1)) (c15 : w.cell? ⟨R, oR + 15, none⟩ = some (.int .u16 8239)) (c16 : w.cell? ⟨R, oR + 16, none⟩ = some (.int .u16 8287)) (c17 : w.cell? ⟨R, oR + 17, none⟩ = some (.int .u16 48)) (c18 : w.cell? ⟨R, oR + 18, none⟩ = some (.int .u16 12288)) (c19 : w.cell? ⟨R, oR + 19, none⟩ = some (.int .u16 12288)) (c20 : w.cell? ⟨R, oR + 20, none⟩ = some (.int .u16 1)) :
    Calls Tryz.prog 198 #[.slice (some ⟨R, oR + 6, none⟩) 5 5, .int .u16 z] w fun e w' => e = .returned (.bool (Lib.isSpaceR z)) ∧ Below w.heap.size w w' := Any.unicode_is16_white Tryz.lays311 R oR z w hz hz0 c6 c7 c8 c9 c10 c11 c12 c13 c14 c15 c16 c17 c18 c19 c20
def Tryz.lays261_ren : Go.Shelf.Ren := ⟨fun | 261 => 170 | 311 => 198 | 312 => 199 | n => n, fun | 141 => 207 | 21 => 21 | 4 => 4 | 0 => 0 | 196 => 238 | 193 => 235 | 3 => 3 | 51 => 205 | 198 => 241 | 49 => 239 | 194 => 236 | 201 => 244 | 226 => 256 | 46 => 106 | 227 => 257 | n => n, fun | n => n⟩
theorem Tryz.lays261 : Go.Proofs.Lays.n261 Tryz.prog Tryz.lays261_ren := {
  mixed := by kernel_rfl
  f261 := Tryz.func170.trans (congrArg some (by kernel_rfl))
  f311 := Tryz.func198.trans (congrArg some (by kernel_rfl))
  f312 := Tryz.func199.trans (congrArg some (by kernel_rfl))
  t0 := Tryz.underlying0
  a0 := Tryz.isAgg0
  z0 := Tryz.sizeOf0
  v0 := Tryz.zeroValue0
  t3 := Tryz.underlying3
  a3 := Tryz.isAgg3
  z3 := Tryz.sizeOf3
  v3 := Tryz.zeroValue3
  t4 := Tryz.underlying4
  a4 := Tryz.isAgg4
  z4 := Tryz.sizeOf4
  v4 := Tryz.zeroValue4
  t21 := Tryz.underlying21
  a21 := Tryz.isAgg21
  z21 := Tryz.sizeOf21
  v21 := Tryz.zeroValue21
  t46 := Tryz.underlying106
  a46 := Tryz.isAgg106
  z46 := Tryz.sizeOf106
  v46 := Tryz.zeroValue106
  t49 := Tryz.underlying239
  a49 := Tryz.isAgg239
  z49 := Tryz.sizeOf239
  v49 := Tryz.zeroValue239
  t51 := Tryz.underlying205
  a51 := Tryz.isAgg205
  z51 := Tryz.sizeOf205
  v51 := Tryz.zeroValue205
  t141 := Tryz.underlying207
  a141 := Tryz.isAgg207
  z141 := Tryz.sizeOf207
  v141 := Tryz.zeroValue207
  t193 := Tryz.underlying235
  a193 := Tryz.isAgg235
  z193 := Tryz.sizeOf235
  v193 := Tryz.zeroValue235
  t194 := Tryz.underlying236
  a194 := Tryz.isAgg236
  z194 := Tryz.sizeOf236
  v194 := Tryz.zeroValue236
  t196 := Tryz.underlying238
  a196 := Tryz.isAgg238
  z196 := Tryz.sizeOf238
  v196 := Tryz.zeroValue238
  t198 := Tryz.underlying241
  a198 := Tryz.isAgg241
  z198 := Tryz.sizeOf241
  v198 := Tryz.zeroValue241
  t201 := Tryz.underlying244
  a201 := Tryz.isAgg244
  z201 := Tryz.sizeOf244
  v201 := Tryz.zeroValue244
  t226 := Tryz.underlying256
  a226 := Tryz.isAgg256
  z226 := Tryz.sizeOf256
  v226 := Tryz.zeroValue256
  t227 := Tryz.underlying257
  a227 := Tryz.isAgg257
  z227 := Tryz.sizeOf257
  v227 := Tryz.zeroValue257 }
open Go.RowKit Go.Lib in
/-- unicode.isExcludingLatin(White_Space, r), r beyond U+00FF or negative. (LAID: no walk: one application.) -/
theorem Tryz.unicode_isExcludingLatin_white (T oT R oR : Nat) (r : Int) (w : World) (hlo : -2147483648 ≤ r) (hhi : r ≤ 2147483647) (hr : r < 0 ∨ 255 < r) (h2 : w.cell? ⟨T, oT, none⟩ = some (.slice (some ⟨R, oR, none⟩) 7 7)) (h3 : w.cell? ⟨T, oT + 1, none⟩ = some (.slice none 0 0)) (h4 : w.cell? ⟨T, oT + 2, none⟩ = some (.int .i64 2)) (h5 : ∀ i, i < 21 → w.cell? ⟨R, oR + i, none⟩ = some (.int .u16 (whiteT.getD i 0))) :
    Calls Tryz.prog 170 #[.pointer (some ⟨T, oT, none⟩), .int .i32 r] w fun e w' => e = .returned (.bool (Lib.isSpaceZ r)) ∧ Below w.heap.size w w' := Any.unicode_isExcludingLatin_white Tryz.lays261 T oT R oR r w hlo hhi hr h2 h3 h4 h5
open Go.RowKit Go.Lib in
/-- **unicode.IsSpace AT EVERY int32.** (LAID: no walk: one application.) -/
theorem Tryz.unicode_IsSpace_any (r : Int) (w : World) (hlo : -2147483648 ≤ r) (hhi : r ≤ 2147483647) (hW : Lib.WhiteTab 2 w) :
    Calls Tryz.prog 146 #[.int .i32 r] w fun e w' => e = .returned (.bool (Lib.isSpaceZ r)) ∧ Below w.heap.size w w' := Any.unicode_IsSpace_any Tryz.lays199 r w hlo hhi hW
def Tryz.lays271_ren : Go.Shelf.Ren := ⟨fun | 271 => 200 | 120 => 213 | 197 => 172 | 260 => 201 | n => n, fun | 9 => 9 | 21 => 21 | 3 => 3 | 4 => 4 | 5 => 5 | 105 => 209 | 119 => 188 | 0 => 0 | 46 => 106 | 139 => 260 | 138 => 259 | n => n, fun | 3 => 7 | 4 => 8 | n => n⟩
theorem Tryz.lays271 : Go.Proofs.Lays.n271 Tryz.prog Tryz.lays271_ren := {
  mixed := by kernel_rfl
  f120 := Tryz.func213.trans (congrArg some (by kernel_rfl))
  f197 := Tryz.func172.trans (congrArg some (by kernel_rfl))
  f260 := Tryz.func201.trans (congrArg some (by kernel_rfl))
  f271 := Tryz.func200.trans (congrArg some (by kernel_rfl))
  t0 := Tryz.underlying0
  a0 := Tryz.isAgg0
  z0 := Tryz.sizeOf0
  v0 := Tryz.zeroValue0
  t3 := Tryz.underlying3
  a3 := Tryz.isAgg3
  z3 := Tryz.sizeOf3
  v3 := Tryz.zeroValue3
  t4 := Tryz.underlying4
  a4 := Tryz.isAgg4
  z4 := Tryz.sizeOf4
  v4 := Tryz.zeroValue4
  t5 := Tryz.underlying5
  a5 := Tryz.isAgg5
  z5 := Tryz.sizeOf5
  v5 := Tryz.zeroValue5
  t9 := Tryz.underlying9
  a9 := Tryz.isAgg9
  z9 := Tryz.sizeOf9
  v9 := Tryz.zeroValue9
  t21 := Tryz.underlying21
  a21 := Tryz.isAgg21
  z21 := Tryz.sizeOf21
  v21 := Tryz.zeroValue21
  t46 := Tryz.underlying106
  a46 := Tryz.isAgg106
  z46 := Tryz.sizeOf106
  v46 := Tryz.zeroValue106
  t105 := Tryz.underlying209
  a105 := Tryz.isAgg209
  z105 := Tryz.sizeOf209
  v105 := Tryz.zeroValue209
  t119 := Tryz.underlying188
  a119 := Tryz.isAgg188
  z119 := Tryz.sizeOf188
  t138 := Tryz.underlying259
  a138 := Tryz.isAgg259
  z138 := Tryz.sizeOf259
  v138 := Tryz.zeroValue259
  t139 := Tryz.underlying260
  a139 := Tryz.isAgg260
  z139 := Tryz.sizeOf260
  v139 := Tryz.zeroValue260
  g3 := by kernel_rfl
  g4 := by kernel_rfl }
open Go.RowKit Go.Lib in
/-- **unicode/utf8.DecodeLastRuneInString AT EVERY STRING.** (LAID: no walk: one application.) -/
theorem Tryz.utf8_DecodeLastRuneInString (s : ByteArray) (w : World) (hs : s.size ≤ 9223372036854775807) (hT : Lib.Utf8Tabs 7 8 w) :
    Calls Tryz.prog 200 #[.string s] w fun e w' => e = .returned (.tuple #[.int .i32 (Lib.decodeLastL s.data.toList).1, .int .i64 (Lib.decodeLastL s.data.toList).2]) ∧ Below w.heap.size w w' := Any.utf8_DecodeLastRuneInString Tryz.lays271 s w hs hT
open Go.RowKit Go.Lib in
theorem Tryz.unicode_is16_any (T : Array Rg) (R oR cap : Nat) (z : Nat) (w : World) (hz : z < 65536) (hT : RgTab .u16 R oR T w) (hok : RgOk 65536 T) (hn : T.size ≤ 1000000000) :
    Calls Tryz.prog 198 #[.slice (some ⟨R, oR, none⟩) T.size cap, .int .u16 z] w fun e w' => e = .returned (.bool (is16Go T z)) ∧ ∃ q, w' = w.drewN q := Any.unicode_is16_any Tryz.lays311 T R oR cap z w hz hT hok hn
def Tryz.lays312_ren : Go.Shelf.Ren := ⟨fun | 312 => 199 | n => n, fun | 194 => 236 | 51 => 205 | 4 => 4 | 3 => 3 | 0 => 0 | 227 => 257 | 201 => 244 | 46 => 106 | n => n, fun | n => n⟩
theorem Tryz.lays312 : Go.Proofs.Lays.n312 Tryz.prog Tryz.lays312_ren := {
  mixed := by kernel_rfl
  f312 := Tryz.func199.trans (congrArg some (by kernel_rfl))
  t0 := Tryz.underlying0
  a0 := Tryz.isAgg0
  z0 := Tryz.sizeOf0
  v0 := Tryz.zeroValue0
  t3 := Tryz.underlying3
  a3 := Tryz.isAgg3
  z3 := Tryz.sizeOf3
  v3 := Tryz.zeroValue3
  t4 := Tryz.underlying4
  a4 := Tryz.isAgg4
  z4 := Tryz.sizeOf4
  v4 := Tryz.zeroValue4
  t46 := Tryz.underlying106
  a46 := Tryz.isAgg106
  z46 := Tryz.sizeOf106
  v46 := Tryz.zeroValue106
  t51 := Tryz.underlying205
  a51 := Tryz.isAgg205
  z51 := Tryz.sizeOf205
  v51 := Tryz.zeroValue205
  t194 := Tryz.underlying236
  a194 := Tryz.isAgg236
  z194 := Tryz.sizeOf236
  v194 := Tryz.zeroValue236
  t201 := Tryz.underlying244
  a201 := Tryz.isAgg244
  z201 := Tryz.sizeOf244
  v201 := Tryz.zeroValue244
  t227 := Tryz.underlying257
  a227 := Tryz.isAgg257
  z227 := Tryz.sizeOf257
  v227 := Tryz.zeroValue257 }
open Go.RowKit Go.Lib in
theorem Tryz.unicode_is32_any (T : Array Rg) (R oR cap : Nat) (z : Nat) (w : World) (hz : z < 4294967296) (hT : RgTab .u32 R oR T w) (hok : RgOk 4294967296 T) (hn : T.size ≤ 1000000000) :
    Calls Tryz.prog 199 #[.slice (some ⟨R, oR, none⟩) T.size cap, .int .u32 z] w fun e w' => e = .returned (.bool (is32Go T z)) ∧ Below w.heap.size w w' := Any.unicode_is32_any Tryz.lays312 T R oR cap z w hz hT hok hn
open Go.RowKit Go.Lib in
theorem Tryz.unicode_isExcludingLatin_any (Tb oT : Nat) (T : RTab) (r : Int) (w : World) (hlo : -2147483648 ≤ r) (hhi : r ≤ 2147483647) (hA : RTabAt Tb oT T w) (hok : RTabOk T) :
    Calls Tryz.prog 170 #[.pointer (some ⟨Tb, oT, none⟩), .int .i32 r] w fun e w' => e = .returned (.bool (exclGo T r)) ∧ Below w.heap.size w w' := Any.unicode_isExcludingLatin_any Tryz.lays261 Tb oT T r w hlo hhi hA hok
end Go.Proofs
