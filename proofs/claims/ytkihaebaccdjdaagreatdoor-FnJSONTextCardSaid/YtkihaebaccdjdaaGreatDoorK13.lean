import Derived.Shelf.Small.Bits
import Derived.Shelf.Small.Wraps
import Derived.Shelf.Strconv.Itoa0
import Derived.Shelf.Strconv.Itoa1
import Derived.Shelf.LaysM
import Derived.Shelf.Strconv.Itoa2
import Derived.Shelf.Strconv.Itoa3
import Derived.Shelf.Strconv.Itoa4
import Derived.Shelf.Strconv.AppendUint10
import Derived.Shelf.Strconv.AppendInt10
import Derived.Shelf.Unicode.Decode
import Derived.Shelf.Unicode.DecodeSlow
import Derived.Shelf.Unicode.DecodeAny
import Derived.Test.YtkihaebaccdjdaaGreatDoorProg
/-
  DERIVED: THE SHELF's CONTRACTS AT THIS DUMP, IN PLAIN WORDS (tools/lay-plain.mjs out of 'TryzShelf.lean', which tools/lay-shelf.mjs wrote): THE SAME DECLARATIONS UNDER THE SAME NAMES: 'import', 'namespace', 'open', 'def', 'theorem' AND NOTHING ELSE: no command of the shelf's: FOR A HAND-IN. Each laying: the table of numbers ('.._ren') and one theorem, a field a fact of the dump's own or the kernel's comparison; each contract: ONE APPLICATION.
-/
namespace Go.Proofs
open Go.Shelf
def Tryz.lays125_ren : Go.Shelf.Ren := ⟨fun | 125 => 145 | 128 => 188 | 129 => 189 | n => n, fun | 46 => 144 | 3 => 3 | 51 => 235 | 53 => 153 | 4 => 4 | 5 => 5 | 9 => 9 | n => n, fun | n => n⟩
theorem Tryz.lays125 : Go.Proofs.Lays.n125 Tryz.prog Tryz.lays125_ren := {
  mixed := by kernel_rfl
  f125 := Tryz.func145.trans (congrArg some (by kernel_rfl))
  f128 := Tryz.func188.trans (congrArg some (by kernel_rfl))
  f129 := Tryz.func189.trans (congrArg some (by kernel_rfl))
  t3 := Tryz.underlying3
  a3 := Tryz.isAgg3
  z3 := Tryz.sizeOf3
  v3 := Tryz.zeroValue3
  t4 := Tryz.underlying4
  a4 := Tryz.isAgg4
  z4 := Tryz.sizeOf4
  v4 := Tryz.zeroValue4
  t5 := Tryz.underlying5
  a5 := Tryz.isAgg5
  z5 := Tryz.sizeOf5
  v5 := Tryz.zeroValue5
  t9 := Tryz.underlying9
  a9 := Tryz.isAgg9
  z9 := Tryz.sizeOf9
  v9 := Tryz.zeroValue9
  t46 := Tryz.underlying144
  a46 := Tryz.isAgg144
  z46 := Tryz.sizeOf144
  v46 := Tryz.zeroValue144
  t51 := Tryz.underlying235
  a51 := Tryz.isAgg235
  z51 := Tryz.sizeOf235
  v51 := Tryz.zeroValue235
  t53 := Tryz.underlying153
  a53 := Tryz.isAgg153
  z53 := Tryz.sizeOf153
  v53 := Tryz.zeroValue153 }
/-- bits.Len: "Len returns the minimum number of bits required to represent x; the result is 0 for x == 0.": IT RETURNS 'Lib.bitLen x'; the world is as it was. (A uint has 64 bits in the model.) ITS CALLEE bits.Len64 IS MET BY ITS OWN CONTRACT OFF THE SHELF (lay that first). (LAID: no walk: one application.) -/
theorem Tryz.bits_Len (x : Int) (w : World) (h0 : 0 ≤ x) (h1 : x ≤ 18446744073709551615) :
    Calls Tryz.prog 145 #[.int .u64 x] w fun e w' => e = .returned (.int .i64 (Lib.bitLen x.toNat)) ∧ w' = w := Any.bits_Len Tryz.lays125 x w h0 h1
def Tryz.lays197_ren : Go.Shelf.Ren := ⟨fun | 197 => 205 | 260 => 234 | n => n, fun | 9 => 9 | 21 => 21 | 3 => 3 | 4 => 4 | 5 => 5 | 105 => 243 | 119 => 273 | 0 => 0 | 46 => 144 | 139 => 276 | 138 => 275 | n => n, fun | 3 => 2 | 4 => 3 | n => n⟩
theorem Tryz.lays197 : Go.Proofs.Lays.n197 Tryz.prog Tryz.lays197_ren := {
  mixed := by kernel_rfl
  f197 := Tryz.func205.trans (congrArg some (by kernel_rfl))
  f260 := Tryz.func234.trans (congrArg some (by kernel_rfl))
  t0 := Tryz.underlying0
  a0 := Tryz.isAgg0
  z0 := Tryz.sizeOf0
  v0 := Tryz.zeroValue0
  t3 := Tryz.underlying3
  a3 := Tryz.isAgg3
  z3 := Tryz.sizeOf3
  v3 := Tryz.zeroValue3
  t4 := Tryz.underlying4
  a4 := Tryz.isAgg4
  z4 := Tryz.sizeOf4
  v4 := Tryz.zeroValue4
  t5 := Tryz.underlying5
  a5 := Tryz.isAgg5
  z5 := Tryz.sizeOf5
  v5 := Tryz.zeroValue5
  t9 := Tryz.underlying9
  a9 := Tryz.isAgg9
  z9 := Tryz.sizeOf9
  v9 := Tryz.zeroValue9
  t21 := Tryz.underlying21
  a21 := Tryz.isAgg21
  z21 := Tryz.sizeOf21
  v21 := Tryz.zeroValue21
  t46 := Tryz.underlying144
  a46 := Tryz.isAgg144
  z46 := Tryz.sizeOf144
  v46 := Tryz.zeroValue144
  t105 := Tryz.underlying243
  a105 := Tryz.isAgg243
  z105 := Tryz.sizeOf243
  v105 := Tryz.zeroValue243
  t119 := Tryz.underlying273
  a119 := Tryz.isAgg273
  z119 := Tryz.sizeOf273
  t138 := Tryz.underlying275
  a138 := Tryz.isAgg275
  z138 := Tryz.sizeOf275
  v138 := Tryz.zeroValue275
  t139 := Tryz.underlying276
  a139 := Tryz.isAgg276
  z139 := Tryz.sizeOf276
  v139 := Tryz.zeroValue276
  g3 := by kernel_rfl
  g4 := by kernel_rfl }
def Tryz.lays260_ren : Go.Shelf.Ren := ⟨fun | 260 => 234 | n => n, fun | 9 => 9 | 21 => 21 | 3 => 3 | 4 => 4 | 5 => 5 | 119 => 273 | 0 => 0 | 46 => 144 | 139 => 276 | 138 => 275 | n => n, fun | 3 => 2 | 4 => 3 | n => n⟩
theorem Tryz.lays260 : Go.Proofs.Lays.n260 Tryz.prog Tryz.lays260_ren := {
  mixed := by kernel_rfl
  f260 := Tryz.func234.trans (congrArg some (by kernel_rfl))
  t0 := Tryz.underlying0
  a0 := Tryz.isAgg0
  z0 := Tryz.sizeOf0
  v0 := Tryz.zeroValue0
  t3 := Tryz.underlying3
  a3 := Tryz.isAgg3
  z3 := Tryz.sizeOf3
  v3 := Tryz.zeroValue3
  t4 := Tryz.underlying4
  a4 := Tryz.isAgg4
  z4 := Tryz.sizeOf4
  v4 := Tryz.zeroValue4
  t5 := Tryz.underlying5
  a5 := Tryz.isAgg5
  z5 := Tryz.sizeOf5
  v5 := Tryz.zeroValue5
  t9 := Tryz.underlying9
  a9 := Tryz.isAgg9
  z9 := Tryz.sizeOf9
  v9 := Tryz.zeroValue9
  t21 := Tryz.underlying21
  a21 := Tryz.isAgg21
  z21 := Tryz.sizeOf21
  v21 := Tryz.zeroValue21
  t46 := Tryz.underlying144
  a46 := Tryz.isAgg144
  z46 := Tryz.sizeOf144
  v46 := Tryz.zeroValue144
  t119 := Tryz.underlying273
  a119 := Tryz.isAgg273
  z119 := Tryz.sizeOf273
  t138 := Tryz.underlying275
  a138 := Tryz.isAgg275
  z138 := Tryz.sizeOf275
  v138 := Tryz.zeroValue275
  t139 := Tryz.underlying276
  a139 := Tryz.isAgg276
  z139 := Tryz.sizeOf276
  v139 := Tryz.zeroValue276
  g3 := by kernel_rfl
  g4 := by kernel_rfl }
open Go.RowKit Go.Lib in
/-- **unicode/utf8.DecodeRuneInString AT EVERY STRING.** (LAID: no walk: one application.) -/
theorem Tryz.utf8_DecodeRuneInString (s : ByteArray) (w : World) (hT : Lib.Utf8Tabs 2 3 w) :
    Calls Tryz.prog 205 #[.string s] w fun e w' => e = .returned (.tuple #[.int .i32 (Lib.decodeGo s).1, .int .i64 (Lib.decodeGo s).2]) ∧ Below w.heap.size w w' := Any.utf8_DecodeRuneInString Tryz.lays197 s w hT
end Go.Proofs
