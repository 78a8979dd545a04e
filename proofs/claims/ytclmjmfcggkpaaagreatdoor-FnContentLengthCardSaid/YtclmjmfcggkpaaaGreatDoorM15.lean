import Derived.Shelf.Strings.Builder1
import Derived.Shelf.Strings.Builder2
import Derived.Shelf.Small.Utf8
import Derived.Shelf.Small.Bits
import Derived.Shelf.Small.Strs
import Derived.Shelf.Strconv.Itoa0
import Derived.Shelf.Strconv.Itoa1
import Derived.Shelf.LaysM
import Derived.Shelf.Strconv.Itoa2
import Derived.Shelf.Strconv.Itoa3
import Derived.Shelf.Strconv.Itoa4
import Derived.Shelf.Strconv.ParseIntEmpty
import Derived.Shelf.Strconv.Clone
import Derived.Shelf.Strconv.SyntaxError
import Derived.Shelf.LaysC
import Derived.Shelf.Strconv.ToError
import Derived.Shelf.Strconv.Lower
import Derived.Shelf.Strconv.ParseUint10
import Derived.Shelf.Strconv.ParseUint10Empty
import Derived.Shelf.Strconv.ParseUint10Any
import Derived.Shelf.Strconv.ParseInt10
import Derived.Shelf.Strconv.RangeError
import Derived.Shelf.Strconv.ToErrorRange
import Derived.Shelf.Strconv.ParseUintEmpty
import Derived.Shelf.Strconv.ParseUint10b64
import Derived.Shelf.Strconv.ParseUint10b32
import Derived.Shelf.Strconv.ParseUint10b16
import Derived.Shelf.Strconv.ParseUint10b8
import Derived.Shelf.Strconv.ParseUint10At
import Derived.Shelf.Strconv.ParseInt10At64
import Derived.Shelf.Strconv.ParseInt10At32
import Derived.Shelf.Strconv.ParseInt10At16
import Derived.Shelf.Strconv.ParseInt10At8
import Derived.Shelf.Strconv.ParseInt10All
import Derived.Shelf.Strconv.ParseIntPublic10
import Derived.Shelf.Strings.Search1
import Derived.Shelf.Unicode.Latin
import Derived.Shelf.Unicode.DecodeSlow
import Derived.Shelf.Unicode.DecodeAny
import Derived.Shelf.Unicode.Is16White
import Derived.Shelf.Unicode.IsSpaceAny
import Derived.Shelf.Unicode.DecodeLast
import Derived.Shelf.Unicode.Is16Any
import Derived.Shelf.Unicode.Is32Any
import Derived.Shelf.Unicode.ExclAny
import Derived.Test.YtclmjmfcggkpaaaGreatDoorProg
/-
  DERIVED: THE SHELF's CONTRACTS AT THIS DUMP, IN PLAIN WORDS (tools/lay-plain.mjs out of 'TryzShelf.lean', which tools/lay-shelf.mjs wrote): THE SAME DECLARATIONS UNDER THE SAME NAMES: 'import', 'namespace', 'open', 'def', 'theorem' AND NOTHING ELSE: no command of the shelf's: FOR A HAND-IN. Each laying: the table of numbers ('.._ren') and one theorem, a field a fact of the dump's own or the kernel's comparison; each contract: ONE APPLICATION.
-/
namespace Go.Proofs
open Go.Shelf
def Tryz.lays169_ren : Go.Shelf.Ren := ⟨fun | 169 => 130 | n => n, fun | 70 => 170 | 9 => 9 | 0 => 0 | 72 => 172 | 37 => 104 | 127 => 191 | 3 => 3 | 5 => 5 | n => n, fun | n => n⟩
theorem Tryz.lays169 : Go.Proofs.Lays.n169 Tryz.prog Tryz.lays169_ren := {
  mixed := by kernel_rfl
  f169 := Tryz.func130.trans (congrArg some (by kernel_rfl))
  t0 := Tryz.underlying0
  a0 := Tryz.isAgg0
  z0 := Tryz.sizeOf0
  v0 := Tryz.zeroValue0
  t3 := Tryz.underlying3
  a3 := Tryz.isAgg3
  z3 := Tryz.sizeOf3
  v3 := Tryz.zeroValue3
  t9 := Tryz.underlying9
  a9 := Tryz.isAgg9
  z9 := Tryz.sizeOf9
  v9 := Tryz.zeroValue9
  t37 := Tryz.underlying104
  a37 := Tryz.isAgg104
  z37 := Tryz.sizeOf104
  v37 := Tryz.zeroValue104
  t70 := Tryz.underlying170
  a70 := Tryz.isAgg170
  z70 := Tryz.sizeOf170
  v70 := Tryz.zeroValue170
  t72 := Tryz.underlying172
  a72 := Tryz.isAgg172
  z72 := Tryz.sizeOf172
  v72 := Tryz.zeroValue172
  t127 := Tryz.underlying191
  a127 := Tryz.isAgg191
  z127 := Tryz.sizeOf191
  v127 := Tryz.zeroValue191 }
theorem Tryz.Builder_Extra_169 : Builder.Extra Tryz.prog Tryz.lays169_ren := {
  sizeBuilder := by kernel_rfl
  liesBuilder := by kernel_rfl
  t5 := Tryz.underlying5
  a5 := Tryz.isAgg5
  z5 := Tryz.sizeOf5
  v5 := Tryz.zeroValue5
  infoByte := by kernel_rfl
  cellsByte := by kernel_rfl
  sizeByte := by kernel_rfl
  neB5 := by decide }
open Go.RowKit in
/-- (*strings.Builder).String: "String returns the accumulated string.": WHATEVER THE BUILDER HOLDS. (LAID: no walk: one application.) -/
theorem Tryz.Builder_String_any (B b : Nat) (l : List UInt8) (w : World) (h : Lib.IsBuilder 172 5 B b (Lib.byteCells l) w) (hBw : B ≤ w.heap.size) :
    Calls Tryz.prog 130 #[.pointer (some ⟨b, 0, none⟩)] w fun e w' => e = .returned (.string ⟨l.toArray⟩) ∧ Below B w w' := Any.Builder_String_any Tryz.lays169 Tryz.Builder_Extra_169 B b l w h hBw
def Tryz.lays165_ren : Go.Shelf.Ren := ⟨fun | 165 => 136 | 240 => 150 | 241 => 156 | 276 => 184 | 277 => 189 | n => n, fun | 70 => 170 | 3 => 3 | 0 => 0 | 4 => 4 | 9 => 9 | 20 => 20 | 72 => 172 | 37 => 104 | 164 => 221 | 5 => 5 | n => n, fun | n => n⟩
theorem Tryz.lays165 : Go.Proofs.Lays.n165 Tryz.prog Tryz.lays165_ren := {
  mixed := by kernel_rfl
  f165 := Tryz.func136.trans (congrArg some (by kernel_rfl))
  f240 := Tryz.func150.trans (congrArg some (by kernel_rfl))
  f241 := Tryz.func156.trans (congrArg some (by kernel_rfl))
  f276 := Tryz.func184.trans (congrArg some (by kernel_rfl))
  f277 := Tryz.func189.trans (congrArg some (by kernel_rfl))
  t0 := Tryz.underlying0
  a0 := Tryz.isAgg0
  z0 := Tryz.sizeOf0
  v0 := Tryz.zeroValue0
  t3 := Tryz.underlying3
  a3 := Tryz.isAgg3
  z3 := Tryz.sizeOf3
  v3 := Tryz.zeroValue3
  t4 := Tryz.underlying4
  a4 := Tryz.isAgg4
  z4 := Tryz.sizeOf4
  v4 := Tryz.zeroValue4
  t9 := Tryz.underlying9
  a9 := Tryz.isAgg9
  z9 := Tryz.sizeOf9
  v9 := Tryz.zeroValue9
  t20 := Tryz.underlying20
  a20 := Tryz.isAgg20
  z20 := Tryz.sizeOf20
  v20 := Tryz.zeroValue20
  t37 := Tryz.underlying104
  a37 := Tryz.isAgg104
  z37 := Tryz.sizeOf104
  v37 := Tryz.zeroValue104
  t70 := Tryz.underlying170
  a70 := Tryz.isAgg170
  z70 := Tryz.sizeOf170
  v70 := Tryz.zeroValue170
  t72 := Tryz.underlying172
  a72 := Tryz.isAgg172
  z72 := Tryz.sizeOf172
  v72 := Tryz.zeroValue172
  t164 := Tryz.underlying221
  a164 := Tryz.isAgg221
  z164 := Tryz.sizeOf221
  v164 := Tryz.zeroValue221 }
theorem Tryz.Builder_Extra_165 : Builder.Extra Tryz.prog Tryz.lays165_ren := {
  sizeBuilder := by kernel_rfl
  liesBuilder := by kernel_rfl
  t5 := Tryz.underlying5
  a5 := Tryz.isAgg5
  z5 := Tryz.sizeOf5
  v5 := Tryz.zeroValue5
  infoByte := by kernel_rfl
  cellsByte := by kernel_rfl
  sizeByte := by kernel_rfl
  neB5 := by decide }
open Go.RowKit in
/-- (*strings.Builder).Grow AT A BUILDER THAT HAS NOT BEEN WRITTEN ('var b strings.Builder; b.Grow(n)'): "Grow grows b's capacity, if necessary, to guarantee space for another n bytes.": it holds no byte behind it as before it. (LAID: no walk: one application.) -/
theorem Tryz.Builder_Grow_fresh (B b n : Nat) (w : World) (hB : B ≤ b) (hbk : w.heap[b]? = some (.cells #[.pointer none, .slice none 0 0] 172 (0, 0))) (hBw : B ≤ w.heap.size) (hn : n ≤ 281474976710656) :
    Calls Tryz.prog 136 #[.pointer (some ⟨b, 0, none⟩), .int .i64 n] w fun e w' => e = .returned (.tuple #[]) ∧ (Lib.BuilderAt 172 5 B b (.pointer (some ⟨b, 0, none⟩)) [] w' ∧ Below B w w') := Any.Builder_Grow_fresh Tryz.lays165 Tryz.Builder_Extra_165 B b n w hB hbk hBw hn
def Tryz.laysM173_ren : Go.Shelf.Ren := ⟨fun | 173 => 141 | 246 => 166 | 283 => 193 | 284 => 194 | 285 => 195 | 286 => 196 | 129 => 183 | 317 => 209 | 318 => 210 | 319 => 211 | 320 => 212 | 337 => 215 | 338 => 216 | n => n, fun | 2 => 2 | 3 => 3 | 9 => 9 | 4 => 4 | 171 => 231 | 0 => 0 | 53 => 111 | 37 => 104 | 5 => 5 | 173 => 233 | 212 => 254 | 51 => 205 | 20 => 20 | 213 => 255 | 46 => 106 | 232 => 264 | 233 => 180 | n => n, fun | 17 => 6 | 18 => 9 | 19 => 10 | n => n⟩
theorem Tryz.laysM173 : Go.Proofs.LaysM.n173 Tryz.prog Tryz.laysM173_ren := {
  mixed := by kernel_rfl
  f129 := Tryz.func183.trans (congrArg some (by kernel_rfl))
  f173 := Tryz.func141.trans (congrArg some (by kernel_rfl))
  f246 := Tryz.func166.trans (congrArg some (by kernel_rfl))
  f283 := Tryz.func193.trans (congrArg some (by kernel_rfl))
  f284 := Tryz.func194.trans (congrArg some (by kernel_rfl))
  f285 := Tryz.func195.trans (congrArg some (by kernel_rfl))
  f286 := Tryz.func196.trans (congrArg some (by kernel_rfl))
  f317 := Tryz.func209.trans (congrArg some (by kernel_rfl))
  f318 := Tryz.func210.trans (congrArg some (by kernel_rfl))
  f319 := Tryz.func211.trans (congrArg some (by kernel_rfl))
  f320 := Tryz.func212.trans (congrArg some (by kernel_rfl))
  f337 := Tryz.func215.trans (congrArg some (by kernel_rfl))
  f338 := Tryz.func216.trans (congrArg some (by kernel_rfl))
  t0 := Tryz.underlying0
  a0 := Tryz.isAgg0
  z0 := Tryz.sizeOf0
  v0 := Tryz.zeroValue0
  t2 := Tryz.underlying2
  a2 := Tryz.isAgg2
  z2 := Tryz.sizeOf2
  v2 := Tryz.zeroValue2
  t3 := Tryz.underlying3
  a3 := Tryz.isAgg3
  z3 := Tryz.sizeOf3
  v3 := Tryz.zeroValue3
  t4 := Tryz.underlying4
  a4 := Tryz.isAgg4
  z4 := Tryz.sizeOf4
  v4 := Tryz.zeroValue4
  t5 := Tryz.underlying5
  a5 := Tryz.isAgg5
  z5 := Tryz.sizeOf5
  v5 := Tryz.zeroValue5
  t9 := Tryz.underlying9
  a9 := Tryz.isAgg9
  z9 := Tryz.sizeOf9
  v9 := Tryz.zeroValue9
  t20 := Tryz.underlying20
  a20 := Tryz.isAgg20
  z20 := Tryz.sizeOf20
  v20 := Tryz.zeroValue20
  t37 := Tryz.underlying104
  a37 := Tryz.isAgg104
  z37 := Tryz.sizeOf104
  v37 := Tryz.zeroValue104
  t46 := Tryz.underlying106
  a46 := Tryz.isAgg106
  z46 := Tryz.sizeOf106
  v46 := Tryz.zeroValue106
  t51 := Tryz.underlying205
  a51 := Tryz.isAgg205
  z51 := Tryz.sizeOf205
  v51 := Tryz.zeroValue205
  t53 := Tryz.underlying111
  a53 := Tryz.isAgg111
  z53 := Tryz.sizeOf111
  v53 := Tryz.zeroValue111
  t171 := Tryz.underlying231
  a171 := Tryz.isAgg231
  z171 := Tryz.sizeOf231
  v171 := Tryz.zeroValue231
  t173 := Tryz.underlying233
  a173 := Tryz.isAgg233
  z173 := Tryz.sizeOf233
  v173 := Tryz.zeroValue233
  t212 := Tryz.underlying254
  a212 := Tryz.isAgg254
  z212 := Tryz.sizeOf254
  v212 := Tryz.zeroValue254
  t213 := Tryz.underlying255
  a213 := Tryz.isAgg255
  z213 := Tryz.sizeOf255
  t232 := Tryz.underlying264
  a232 := Tryz.isAgg264
  z232 := Tryz.sizeOf264
  v232 := Tryz.zeroValue264
  t233 := Tryz.underlying180
  a233 := Tryz.isAgg180
  z233 := Tryz.sizeOf180
  v233 := Tryz.zeroValue180
  g17 := by kernel_rfl
  g18 := by kernel_rfl
  g19 := by kernel_rfl
  i0 := by kernel_rfl
  i2 := by kernel_rfl
  i3 := by kernel_rfl
  i4 := by kernel_rfl
  i5 := by kernel_rfl
  i9 := by kernel_rfl
  i20 := by kernel_rfl
  i37 := by kernel_rfl
  i46 := by kernel_rfl
  i51 := by kernel_rfl
  i53 := by kernel_rfl
  i171 := by kernel_rfl
  i173 := by kernel_rfl
  i212 := by kernel_rfl
  i232 := by kernel_rfl
  i233 := by kernel_rfl
  m17 := by kernel_rfl
  m18 := by kernel_rfl
  m19 := by kernel_rfl }
open Go.RowKit Go.Sort Go.Lib in
/-- strconv.FormatInt: "FormatInt returns the string representation of i in the given base": AT BASE 10: i's decimal numeral, for every int64. (LAID: no walk: one application.) -/
theorem Tryz.strconv_FormatInt_10 (n : Int) (h0 : -9223372036854775808 ≤ n) (h1 : n ≤ 9223372036854775807) (w : World) (htab : Lib.TabIs Tryz.prog w "internal/strconv.uint64pow10" .u64 Lib.pow10Tab) :
    Calls Tryz.prog 141 #[.int .i64 n, .int .i64 10] w fun e w' => e = .returned (.string ⟨(Lib.itoa n).toArray⟩) ∧ ∃ k os, w' = grow (w.drewN k) os := Any.strconv_FormatInt_10 Tryz.laysM173 n h0 h1 w htab
def Tryz.laysC174_ren : Go.Shelf.Ren := ⟨fun | 174 => 83 | 247 => 131 | 245 => 132 | 287 => 151 | 279 => 152 | 280 => 153 | 281 => 154 | 282 => 155 | 321 => 185 | 322 => 186 | 316 => 187 | 171 => 188 | 205 => 160 | 243 => 208 | 246 => 166 | 283 => 193 | 284 => 194 | 285 => 195 | 286 => 196 | 129 => 183 | 317 => 209 | 318 => 210 | 319 => 211 | 320 => 212 | 337 => 215 | 338 => 216 | n => n, fun | 9 => 9 | 3 => 3 | 2 => 2 | 75 => 79 | 85 => 132 | 4 => 4 | 167 => 192 | 5 => 5 | 53 => 111 | 175 => 193 | 46 => 106 | 168 => 195 | 37 => 104 | 0 => 0 | 210 => 224 | 21 => 21 | 127 => 191 | 145 => 229 | 143 => 227 | 171 => 231 | 173 => 233 | 212 => 254 | 51 => 205 | 20 => 20 | 213 => 255 | 232 => 264 | 233 => 180 | 80 => 92 | n => n, fun | 15 => 3 | 16 => 4 | 17 => 6 | 18 => 9 | 19 => 10 | n => n⟩
theorem Tryz.laysC174 : Go.Proofs.LaysC.n174 Tryz.prog Tryz.laysC174_ren := {
  mixed := by kernel_rfl
  f129 := Tryz.func183.trans (congrArg some (by kernel_rfl))
  f171 := Tryz.func188.trans (congrArg some (by kernel_rfl))
  f174 := Tryz.func83.trans (congrArg some (by kernel_rfl))
  f205 := Tryz.func160.trans (congrArg some (by kernel_rfl))
  f243 := Tryz.func208.trans (congrArg some (by kernel_rfl))
  f245 := Tryz.func132.trans (congrArg some (by kernel_rfl))
  f246 := Tryz.func166.trans (congrArg some (by kernel_rfl))
  f247 := Tryz.func131.trans (congrArg some (by kernel_rfl))
  f279 := Tryz.func152.trans (congrArg some (by kernel_rfl))
  f280 := Tryz.func153.trans (congrArg some (by kernel_rfl))
  f281 := Tryz.func154.trans (congrArg some (by kernel_rfl))
  f282 := Tryz.func155.trans (congrArg some (by kernel_rfl))
  f283 := Tryz.func193.trans (congrArg some (by kernel_rfl))
  f284 := Tryz.func194.trans (congrArg some (by kernel_rfl))
  f285 := Tryz.func195.trans (congrArg some (by kernel_rfl))
  f286 := Tryz.func196.trans (congrArg some (by kernel_rfl))
  f287 := Tryz.func151.trans (congrArg some (by kernel_rfl))
  f316 := Tryz.func187.trans (congrArg some (by kernel_rfl))
  f317 := Tryz.func209.trans (congrArg some (by kernel_rfl))
  f318 := Tryz.func210.trans (congrArg some (by kernel_rfl))
  f319 := Tryz.func211.trans (congrArg some (by kernel_rfl))
  f320 := Tryz.func212.trans (congrArg some (by kernel_rfl))
  f321 := Tryz.func185.trans (congrArg some (by kernel_rfl))
  f322 := Tryz.func186.trans (congrArg some (by kernel_rfl))
  f337 := Tryz.func215.trans (congrArg some (by kernel_rfl))
  f338 := Tryz.func216.trans (congrArg some (by kernel_rfl))
  t0 := Tryz.underlying0
  a0 := Tryz.isAgg0
  z0 := Tryz.sizeOf0
  v0 := Tryz.zeroValue0
  t2 := Tryz.underlying2
  a2 := Tryz.isAgg2
  z2 := Tryz.sizeOf2
  v2 := Tryz.zeroValue2
  t3 := Tryz.underlying3
  a3 := Tryz.isAgg3
  z3 := Tryz.sizeOf3
  v3 := Tryz.zeroValue3
  t4 := Tryz.underlying4
  a4 := Tryz.isAgg4
  z4 := Tryz.sizeOf4
  v4 := Tryz.zeroValue4
  t5 := Tryz.underlying5
  a5 := Tryz.isAgg5
  z5 := Tryz.sizeOf5
  v5 := Tryz.zeroValue5
  t9 := Tryz.underlying9
  a9 := Tryz.isAgg9
  z9 := Tryz.sizeOf9
  v9 := Tryz.zeroValue9
  t20 := Tryz.underlying20
  a20 := Tryz.isAgg20
  z20 := Tryz.sizeOf20
  v20 := Tryz.zeroValue20
  t21 := Tryz.underlying21
  a21 := Tryz.isAgg21
  z21 := Tryz.sizeOf21
  v21 := Tryz.zeroValue21
  t37 := Tryz.underlying104
  a37 := Tryz.isAgg104
  z37 := Tryz.sizeOf104
  v37 := Tryz.zeroValue104
  t46 := Tryz.underlying106
  a46 := Tryz.isAgg106
  z46 := Tryz.sizeOf106
  v46 := Tryz.zeroValue106
  t51 := Tryz.underlying205
  a51 := Tryz.isAgg205
  z51 := Tryz.sizeOf205
  v51 := Tryz.zeroValue205
  t53 := Tryz.underlying111
  a53 := Tryz.isAgg111
  z53 := Tryz.sizeOf111
  v53 := Tryz.zeroValue111
  t75 := Tryz.underlying79
  a75 := Tryz.isAgg79
  z75 := Tryz.sizeOf79
  v75 := Tryz.zeroValue79
  t85 := Tryz.underlying132
  a85 := Tryz.isAgg132
  z85 := Tryz.sizeOf132
  v85 := Tryz.zeroValue132
  t127 := Tryz.underlying191
  a127 := Tryz.isAgg191
  z127 := Tryz.sizeOf191
  v127 := Tryz.zeroValue191
  t143 := Tryz.underlying227
  a143 := Tryz.isAgg227
  z143 := Tryz.sizeOf227
  v143 := Tryz.zeroValue227
  t145 := Tryz.underlying229
  a145 := Tryz.isAgg229
  z145 := Tryz.sizeOf229
  v145 := Tryz.zeroValue229
  t167 := Tryz.underlying192
  a167 := Tryz.isAgg192
  z167 := Tryz.sizeOf192
  v167 := Tryz.zeroValue192
  t168 := Tryz.underlying195
  a168 := Tryz.isAgg195
  z168 := Tryz.sizeOf195
  v168 := Tryz.zeroValue195
  t171 := Tryz.underlying231
  a171 := Tryz.isAgg231
  z171 := Tryz.sizeOf231
  v171 := Tryz.zeroValue231
  t173 := Tryz.underlying233
  a173 := Tryz.isAgg233
  z173 := Tryz.sizeOf233
  v173 := Tryz.zeroValue233
  t175 := Tryz.underlying193
  a175 := Tryz.isAgg193
  z175 := Tryz.sizeOf193
  v175 := Tryz.zeroValue193
  t210 := Tryz.underlying224
  a210 := Tryz.isAgg224
  z210 := Tryz.sizeOf224
  v210 := Tryz.zeroValue224
  t212 := Tryz.underlying254
  a212 := Tryz.isAgg254
  z212 := Tryz.sizeOf254
  v212 := Tryz.zeroValue254
  t213 := Tryz.underlying255
  a213 := Tryz.isAgg255
  z213 := Tryz.sizeOf255
  t232 := Tryz.underlying264
  a232 := Tryz.isAgg264
  z232 := Tryz.sizeOf264
  v232 := Tryz.zeroValue264
  t233 := Tryz.underlying180
  a233 := Tryz.isAgg180
  z233 := Tryz.sizeOf180
  v233 := Tryz.zeroValue180
  g15 := by kernel_rfl
  g16 := by kernel_rfl
  g17 := by kernel_rfl
  g18 := by kernel_rfl
  g19 := by kernel_rfl
  t80 := Tryz.underlying92
  a80 := Tryz.isAgg92
  z80 := Tryz.sizeOf92
  v80 := Tryz.zeroValue92
  i0 := by kernel_rfl
  i2 := by kernel_rfl
  i3 := by kernel_rfl
  i4 := by kernel_rfl
  i5 := by kernel_rfl
  i9 := by kernel_rfl
  i20 := by kernel_rfl
  i21 := by kernel_rfl
  i37 := by kernel_rfl
  i46 := by kernel_rfl
  i51 := by kernel_rfl
  i53 := by kernel_rfl
  i75 := by kernel_rfl
  i80 := by kernel_rfl
  i85 := by kernel_rfl
  i127 := by kernel_rfl
  i143 := by kernel_rfl
  i145 := by kernel_rfl
  i167 := by kernel_rfl
  i168 := by kernel_rfl
  i171 := by kernel_rfl
  i173 := by kernel_rfl
  i175 := by kernel_rfl
  i210 := by kernel_rfl
  i212 := by kernel_rfl
  i232 := by kernel_rfl
  i233 := by kernel_rfl
  m15 := by kernel_rfl
  m16 := by kernel_rfl
  m17 := by kernel_rfl
  m18 := by kernel_rfl
  m19 := by kernel_rfl
  c0 := by kernel_rfl
  c2 := by kernel_rfl
  c3 := by kernel_rfl
  c4 := by kernel_rfl
  c5 := by kernel_rfl
  c9 := by kernel_rfl
  c20 := by kernel_rfl
  c21 := by kernel_rfl
  c37 := by kernel_rfl
  c46 := by kernel_rfl
  c51 := by kernel_rfl
  c53 := by kernel_rfl
  c75 := by kernel_rfl
  c80 := by kernel_rfl
  c85 := by kernel_rfl
  c127 := by kernel_rfl
  c143 := by kernel_rfl
  c145 := by kernel_rfl
  c167 := by kernel_rfl
  c168 := by kernel_rfl
  c171 := by kernel_rfl
  c173 := by kernel_rfl
  c175 := by kernel_rfl
  c210 := by kernel_rfl
  c212 := by kernel_rfl
  c213 := by kernel_rfl
  c232 := by kernel_rfl
  c233 := by kernel_rfl }
open Go.RowKit in
/-- strconv.ParseInt(s, 10, 64), AT EVERY STRING THAT SPELLS AN int64 ('Lib.parseIntB 64 s.data.toList = .ok v'): v, AND NO ERROR. (LAID: no walk: one application.) -/
theorem Tryz.strconv_ParseInt_10_at64_ok (s : ByteArray) (hmax : s.size ≤ 9223372036854775806) (v : Int) (h : Lib.parseIntB 64 s.data.toList = .ok v) (w : World) :
    Calls Tryz.prog 83 #[.string s, .int .i64 10, .int .i64 64] w fun e w' => e = .returned (.tuple #[.int .i64 v, .nilIface]) ∧ (w' = w ∨ ∃ t, w' = Lib.bytesWorld w 5 t) := Any.strconv_ParseInt_10_at64_ok Tryz.laysC174 s hmax v h w
end Go.Proofs
