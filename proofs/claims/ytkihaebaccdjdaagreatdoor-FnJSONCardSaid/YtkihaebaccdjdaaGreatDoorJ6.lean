import Derived.Test.YtkihaebaccdjdaaGreatDoorJ4
import Derived.Test.YtkihaebaccdjdaaGreatDoorJ5
import Derived.Lib.ConvBytes
import Derived.Shelf.Small.Bits
import Derived.Shelf.Small.Wraps
import Derived.Shelf.Strconv.Itoa0
import Derived.Shelf.Strconv.Itoa1
import Derived.Shelf.LaysM
import Derived.Shelf.Strconv.Itoa2
import Derived.Shelf.Strconv.Itoa3
import Derived.Shelf.Strconv.Itoa4
import Derived.Shelf.Strconv.AppendUint10
import Derived.Shelf.Strconv.AppendInt10
import Derived.Shelf.Unicode.Decode
import Derived.Shelf.Unicode.DecodeSlow
import Derived.Shelf.Unicode.DecodeAny
import Derived.Test.YtkihaebaccdjdaaGreatDoorProg
namespace Go.Proofs.YtkihaebaccdjdaaGreatDoor.PX
open Go.RowKit Go.Proofs.YtkihaebaccdjdaaGreatDoorW.PrintWords Go.Proofs.YtkihaebaccdjdaaGreatDoorW.PrintLast Go.Proofs.YtkihaebaccdjdaaGreatDoorW.PrintMore
attribute [local go_sem] max2_int min2_int max_two min_two max_three min_three max_four min_four   -- for this text's walks alone
set_option linter.unusedVariables false
set_option linter.unusedSimpArgs false

/-! ### smjson_safeSet: function 198 -/
def smjson_safeSet.f (a0 : Int) : Option (Bool) := if a0 ≥ 32 then (if a0 = 34 then (some false) else (some (a0 != 92))) else (some false)
set_option maxHeartbeats 8000000 in
set_option maxRecDepth 100000 in
theorem smjson_safeSet.calls (a0 : Int) (r : Bool) (w : World) (h : smjson_safeSet.f a0 = some r) :
 Calls Tryz.prog 198 #[.int .u8 a0] w fun e w' => e = .returned (.bool r) ∧ Drawn0 w w' := by
 have H : (if a0 ≥ 32 then (if a0 = 34 then (some false) else (some (a0 != 92))) else (some false)) = some r := h
 clear h
 by_cases c2 : a0 ≥ 32
 ·rw [if_pos c2] at H
  have c2b0 : decide (32 ≤ a0) = true := decide_eq_true c2
  clear c2
  by_cases c3 : a0 = 34
  ·rw [if_pos c3] at H
   have c3b0 : (a0 == 34) = true := beq_iff_eq.mpr c3
   have c3b1 : (a0 != 34) = false := bne_eq_false_iff_eq.mpr c3
   clear c3
   obtain rfl := Option.some.inj H
   go_enter Tryz.func198, Tryz.ntmps198
   go_wp2
   go_ret
   exact ⟨by first | rfl | (simp; done) | (simp [*]; done), by repeat (first | exact Drawn0.refl _ | apply Drawn0.step)⟩
  ·rw [if_neg c3] at H
   have c3b0 : (a0 == 34) = false := beq_eq_false_iff_ne.mpr c3
   have c3b1 : (a0 != 34) = true := bne_iff_ne.mpr c3
   obtain rfl := Option.some.inj H
   go_enter Tryz.func198, Tryz.ntmps198
   go_wp2
   go_ret
   exact ⟨by first | rfl | (simp; done) | (simp [*]; done), by repeat (first | exact Drawn0.refl _ | apply Drawn0.step)⟩
 ·rw [if_neg c2] at H
  have c2b0 : decide (32 ≤ a0) = false := decide_eq_false c2
  clear c2
  obtain rfl := Option.some.inj H
  go_enter Tryz.func198, Tryz.ntmps198
  go_wp2
  go_ret
  exact ⟨by first | rfl | (simp; done) | (simp [*]; done), by repeat (first | exact Drawn0.refl _ | apply Drawn0.step)⟩

end Go.Proofs.YtkihaebaccdjdaaGreatDoor.PX
set_option linter.unusedVariables false
set_option linter.unusedSimpArgs false
namespace Go.Proofs.YtkihaebaccdjdaaGreatDoor
open Go.RowKit Go.Proofs.YtkihaebaccdjdaaGreatDoorW.PrintWords Go.Proofs.YtkihaebaccdjdaaGreatDoorW.PrintLast Go.Proofs.YtkihaebaccdjdaaGreatDoorW.PrintMore
open Go.Lib (bytesWorld bytesCells bytesWorld_at_new bytesWorld_at_old bytesWorld_size)
namespace H
/-! ### A block of bytes: of the call's own, or made of a string -/
/-- The block g holds the bytes zs, and may be written. -/
def BAt (w : World) (g : Nat) (zs : List Int) : Prop :=
  ∃ fr : Nat × Nat, w.heap[g]? = some (.cells (nums .u8 zs).toArray 5 fr) ∧ (fr = (0, 0) ∨ fr = (zs.length, zs.length + 1))
theorem BAt.fr {S : Nat → Prop} {w w' : World} {g : Nat} {zs : List Int} (h : BAt w g zs) (hf : Fr S w w') (hn : ¬ S g) : BAt w' g zs := by
  obtain ⟨fr, h1, h2⟩ := h
  exact ⟨fr, hf.heap h1 hn, h2⟩
theorem BAt.below {w w' : World} {g : Nat} {zs : List Int} (h : BAt w g zs) (hb : Below w.heap.size w w') : BAt w' g zs :=
  h.fr (Fr.of_below (S := fun _ => False) hb) (fun h => h)
theorem BAt.lt {w : World} {g : Nat} {zs : List Int} (h : BAt w g zs) : g < w.heap.size := by obtain ⟨fr, h1, _⟩ := h; exact lt_of h1
theorem plain_add (g o j : Nat) : (⟨g, o, none⟩ : Addr).add j = ⟨g, o + j, none⟩ := by unfold Addr.add; split <;> simp_all
theorem nums_get (k : IntKind) (xs : List Int) (i : Nat) (h : i < xs.length) : (nums k xs)[i]? = some (.int k (xs.getD i 0)) := by
  simp [nums, h, List.getD_eq_getElem?_getD]
theorem BAt.cell {w : World} {g : Nat} {zs : List Int} (h : BAt w g zs) (i : Nat) (hi : i < zs.length) : w.cell? ⟨g, i, none⟩ = some (.int .u8 (zs.getD i 0)) := by
  obtain ⟨fr, h1, _⟩ := h
  rw [cell_at h1, List.getElem?_toArray, nums_get _ _ _ hi]
/-- What a string's bytes, and the noughts behind them, are. -/
def strZs (w : World) (s : ByteArray) : List Int := bytesOf s ++ List.replicate (grownCap w s.size 0 5 - s.size) 0
theorem strZs_length (w : World) (s : ByteArray) : (strZs w s).length = grownCap w s.size 0 5 := by
  have := grownCap_ge w s.size 0 5
  simp [strZs, bytesOf_length]; omega
theorem strZs_take (w : World) (s : ByteArray) : (strZs w s).take s.size = bytesOf s := by
  rw [strZs, List.take_append_of_le_length (by rw [bytesOf_length]; exact Nat.le_refl _), List.take_of_length_le (by rw [bytesOf_length]; exact Nat.le_refl _)]
theorem BAt.of_string (w : World) (s : ByteArray) : BAt (bytesWorld w 5 s) w.heap.size (strZs w s) := by
  refine ⟨_, ?_, .inr rfl⟩
  rw [bytesWorld_at_new w 5 s]
  have e : bytesCells w 5 s = (nums .u8 (strZs w s)).toArray := by
    apply Array.ext'
    simp [bytesCells, strZs, nums, bytesOf]
  rw [e]
  simp [nums_length]
theorem bytesWorld_below (w : World) (s : ByteArray) : Below w.heap.size w (bytesWorld w 5 s) :=
  ⟨rfl, rfl, rfl, by rw [bytesWorld_size]; omega, fun k hk => bytesWorld_at_old w 5 s k hk⟩
theorem cut_cell {w : World} {g : Nat} {zs : List Int} (h : BAt w g zs) (a cnt j : Nat) (hc : a + cnt ≤ zs.length) (hj : j < ((zs.drop a).take cnt).length) :
    w.cell? ((⟨g, a, none⟩ : Addr).add j) = some (.int .u8 (((zs.drop a).take cnt).getD j 0)) := by
  have hj2 : j < cnt := by simp at hj; omega
  rw [plain_add, h.cell (a + j) (by omega)]
  congr 2
  rw [List.getD_eq_getElem?_getD, List.getD_eq_getElem?_getD, List.getElem?_take, if_pos hj2, List.getElem?_drop]
end H
end Go.Proofs.YtkihaebaccdjdaaGreatDoor
/-
  DERIVED: THE SHELF's CONTRACTS AT THIS DUMP, IN PLAIN WORDS (tools/lay-plain.mjs out of 'TryzShelf.lean', which tools/lay-shelf.mjs wrote): THE SAME DECLARATIONS UNDER THE SAME NAMES: 'import', 'namespace', 'open', 'def', 'theorem' AND NOTHING ELSE: no command of the shelf's: FOR A HAND-IN. Each laying: the table of numbers ('.._ren') and one theorem, a field a fact of the dump's own or the kernel's comparison; each contract: ONE APPLICATION.
-/
namespace Go.Proofs
open Go.Shelf
def Tryz.lays125_ren : Go.Shelf.Ren := ⟨fun | 125 => 145 | 128 => 188 | 129 => 189 | n => n, fun | 46 => 144 | 3 => 3 | 51 => 235 | 53 => 153 | 4 => 4 | 5 => 5 | 9 => 9 | n => n, fun | n => n⟩
theorem Tryz.lays125 : Go.Proofs.Lays.n125 Tryz.prog Tryz.lays125_ren := {
  mixed := by kernel_rfl
  f125 := Tryz.func145.trans (congrArg some (by kernel_rfl))
  f128 := Tryz.func188.trans (congrArg some (by kernel_rfl))
  f129 := Tryz.func189.trans (congrArg some (by kernel_rfl))
  t3 := Tryz.underlying3
  a3 := Tryz.isAgg3
  z3 := Tryz.sizeOf3
  v3 := Tryz.zeroValue3
  t4 := Tryz.underlying4
  a4 := Tryz.isAgg4
  z4 := Tryz.sizeOf4
  v4 := Tryz.zeroValue4
  t5 := Tryz.underlying5
  a5 := Tryz.isAgg5
  z5 := Tryz.sizeOf5
  v5 := Tryz.zeroValue5
  t9 := Tryz.underlying9
  a9 := Tryz.isAgg9
  z9 := Tryz.sizeOf9
  v9 := Tryz.zeroValue9
  t46 := Tryz.underlying144
  a46 := Tryz.isAgg144
  z46 := Tryz.sizeOf144
  v46 := Tryz.zeroValue144
  t51 := Tryz.underlying235
  a51 := Tryz.isAgg235
  z51 := Tryz.sizeOf235
  v51 := Tryz.zeroValue235
  t53 := Tryz.underlying153
  a53 := Tryz.isAgg153
  z53 := Tryz.sizeOf153
  v53 := Tryz.zeroValue153 }
/-- bits.Len: "Len returns the minimum number of bits required to represent x; the result is 0 for x == 0.": IT RETURNS 'Lib.bitLen x'; the world is as it was. (A uint has 64 bits in the model.) ITS CALLEE bits.Len64 IS MET BY ITS OWN CONTRACT OFF THE SHELF (lay that first). (LAID: no walk: one application.) -/
theorem Tryz.bits_Len (x : Int) (w : World) (h0 : 0 ≤ x) (h1 : x ≤ 18446744073709551615) :
    Calls Tryz.prog 145 #[.int .u64 x] w fun e w' => e = .returned (.int .i64 (Lib.bitLen x.toNat)) ∧ w' = w := Any.bits_Len Tryz.lays125 x w h0 h1
def Tryz.lays283_ren : Go.Shelf.Ren := ⟨fun | 283 => 223 | n => n, fun | 3 => 3 | 9 => 9 | 4 => 4 | n => n, fun | n => n⟩
theorem Tryz.lays283 : Go.Proofs.Lays.n283 Tryz.prog Tryz.lays283_ren := {
  mixed := by kernel_rfl
  f283 := Tryz.func223.trans (congrArg some (by kernel_rfl))
  t3 := Tryz.underlying3
  a3 := Tryz.isAgg3
  z3 := Tryz.sizeOf3
  v3 := Tryz.zeroValue3
  t4 := Tryz.underlying4
  a4 := Tryz.isAgg4
  z4 := Tryz.sizeOf4
  v4 := Tryz.zeroValue4
  t9 := Tryz.underlying9
  a9 := Tryz.isAgg9
  z9 := Tryz.sizeOf9
  v9 := Tryz.zeroValue9 }
open Go.Lib in
/-- internal/strconv.small: "small returns the string for an i with 0 <= i < nSmalls.": i's decimal numeral. The world is as it was. (LAID: no walk: one application.) -/
theorem Tryz.internal_strconv_small (i : Nat) (h : i < 100) (w : World) :
    Calls Tryz.prog 223 #[.int .i64 i] w fun e w' => e = .returned (.string ⟨(Lib.decDigits i).toArray⟩) ∧ w' = w := Any.internal_strconv_small Tryz.lays283 i h w
def Tryz.laysM284_ren : Go.Shelf.Ren := ⟨fun | 284 => 224 | 129 => 189 | 317 => 235 | 318 => 236 | n => n, fun | 53 => 153 | 3 => 3 | 212 => 268 | 0 => 0 | 4 => 4 | 46 => 144 | 5 => 5 | 9 => 9 | n => n, fun | 17 => 1 | n => n⟩
theorem Tryz.laysM284 : Go.Proofs.LaysM.n284 Tryz.prog Tryz.laysM284_ren := {
  mixed := by kernel_rfl
  f129 := Tryz.func189.trans (congrArg some (by kernel_rfl))
  f284 := Tryz.func224.trans (congrArg some (by kernel_rfl))
  f317 := Tryz.func235.trans (congrArg some (by kernel_rfl))
  f318 := Tryz.func236.trans (congrArg some (by kernel_rfl))
  t0 := Tryz.underlying0
  a0 := Tryz.isAgg0
  z0 := Tryz.sizeOf0
  v0 := Tryz.zeroValue0
  t3 := Tryz.underlying3
  a3 := Tryz.isAgg3
  z3 := Tryz.sizeOf3
  v3 := Tryz.zeroValue3
  t4 := Tryz.underlying4
  a4 := Tryz.isAgg4
  z4 := Tryz.sizeOf4
  v4 := Tryz.zeroValue4
  t5 := Tryz.underlying5
  a5 := Tryz.isAgg5
  z5 := Tryz.sizeOf5
  v5 := Tryz.zeroValue5
  t9 := Tryz.underlying9
  a9 := Tryz.isAgg9
  z9 := Tryz.sizeOf9
  v9 := Tryz.zeroValue9
  t46 := Tryz.underlying144
  a46 := Tryz.isAgg144
  z46 := Tryz.sizeOf144
  v46 := Tryz.zeroValue144
  t53 := Tryz.underlying153
  a53 := Tryz.isAgg153
  z53 := Tryz.sizeOf153
  v53 := Tryz.zeroValue153
  t212 := Tryz.underlying268
  a212 := Tryz.isAgg268
  z212 := Tryz.sizeOf268
  v212 := Tryz.zeroValue268
  g17 := by kernel_rfl
  i0 := by kernel_rfl
  i3 := by kernel_rfl
  i4 := by kernel_rfl
  i5 := by kernel_rfl
  i9 := by kernel_rfl
  i46 := by kernel_rfl
  i53 := by kernel_rfl
  i212 := by kernel_rfl
  m17 := by kernel_rfl }
open Go.Lib in
/-- internal/strconv.numDigits, at a d that is not 0: THE NUMBER OF d's DECIMAL DIGITS. The world is as it was. (LAID: no walk: one application.) -/
theorem Tryz.internal_strconv_numDigits (u : Nat) (h1 : 1 ≤ u) (h2 : u < 18446744073709551616) (w : World) (htab : Lib.TabIs Tryz.prog w "internal/strconv.uint64pow10" .u64 Lib.pow10Tab) :
    Calls Tryz.prog 224 #[.int .u64 u] w fun e w' => e = .returned (.int .i64 (Lib.nDigits u)) ∧ w' = w := Any.internal_strconv_numDigits Tryz.laysM284 u h1 h2 w htab
def Tryz.lays285_ren : Go.Shelf.Ren := ⟨fun | 285 => 225 | n => n, fun | 37 => 22 | 53 => 153 | 3 => 3 | 4 => 4 | 51 => 235 | 9 => 9 | 5 => 5 | 0 => 0 | n => n, fun | n => n⟩
theorem Tryz.lays285 : Go.Proofs.Lays.n285 Tryz.prog Tryz.lays285_ren := {
  mixed := by kernel_rfl
  f285 := Tryz.func225.trans (congrArg some (by kernel_rfl))
  t0 := Tryz.underlying0
  a0 := Tryz.isAgg0
  z0 := Tryz.sizeOf0
  v0 := Tryz.zeroValue0
  t3 := Tryz.underlying3
  a3 := Tryz.isAgg3
  z3 := Tryz.sizeOf3
  v3 := Tryz.zeroValue3
  t4 := Tryz.underlying4
  a4 := Tryz.isAgg4
  z4 := Tryz.sizeOf4
  v4 := Tryz.zeroValue4
  t5 := Tryz.underlying5
  a5 := Tryz.isAgg5
  z5 := Tryz.sizeOf5
  v5 := Tryz.zeroValue5
  t9 := Tryz.underlying9
  a9 := Tryz.isAgg9
  z9 := Tryz.sizeOf9
  v9 := Tryz.zeroValue9
  t37 := Tryz.underlying22
  a37 := Tryz.isAgg22
  z37 := Tryz.sizeOf22
  v37 := Tryz.zeroValue22
  t51 := Tryz.underlying235
  a51 := Tryz.isAgg235
  z51 := Tryz.sizeOf235
  v51 := Tryz.zeroValue235
  t53 := Tryz.underlying153
  a53 := Tryz.isAgg153
  z53 := Tryz.sizeOf153
  v53 := Tryz.zeroValue153 }
open Go.RowKit Go.Sort Go.Lib in
/-- internal/strconv.formatBase10: "formatBase10 formats the decimal representation of u into a. The caller is responsible for ensuring that a is big enough to hold u. If a is too big, leading zeros will be filled in as needed.": THE ROW HOLDS u's DIGITS ('FmtInv .. 0 ..': every place t holds 'dg u (len - 1 - t)'); all else is as it was but for the count of draws. (LAID: no walk: one application.) -/
theorem Tryz.internal_strconv_formatBase10 (blk off cap : Nat) (u : Nat) (d : Array UInt8) (w : World) (hH : Holds (fun (b : UInt8) => Value.int .u8 (b.toNat : Int)) w blk off d) (hu : u < 10 ^ d.size) (hu64 : u < 18446744073709551616) (hsz : d.size < 4611686018427387904) :
    Calls Tryz.prog 225 #[.slice (some ⟨blk, off, none⟩) d.size cap, .int .u64 u] w fun e w' =>
      e = .returned (.tuple #[]) ∧ ∃ (n v' : Nat) (dk : Array UInt8), w' = (putRow (fun (b : UInt8) => Value.int .u8 (b.toNat : Int)) w blk off dk).drewN n ∧ FmtInv d.size u 0 v' dk := Any.internal_strconv_formatBase10 Tryz.lays285 blk off cap u d w hH hu hu64 hsz
def Tryz.lays197_ren : Go.Shelf.Ren := ⟨fun | 197 => 205 | 260 => 234 | n => n, fun | 9 => 9 | 21 => 21 | 3 => 3 | 4 => 4 | 5 => 5 | 105 => 243 | 119 => 273 | 0 => 0 | 46 => 144 | 139 => 276 | 138 => 275 | n => n, fun | 3 => 2 | 4 => 3 | n => n⟩
theorem Tryz.lays197 : Go.Proofs.Lays.n197 Tryz.prog Tryz.lays197_ren := {
  mixed := by kernel_rfl
  f197 := Tryz.func205.trans (congrArg some (by kernel_rfl))
  f260 := Tryz.func234.trans (congrArg some (by kernel_rfl))
  t0 := Tryz.underlying0
  a0 := Tryz.isAgg0
  z0 := Tryz.sizeOf0
  v0 := Tryz.zeroValue0
  t3 := Tryz.underlying3
  a3 := Tryz.isAgg3
  z3 := Tryz.sizeOf3
  v3 := Tryz.zeroValue3
  t4 := Tryz.underlying4
  a4 := Tryz.isAgg4
  z4 := Tryz.sizeOf4
  v4 := Tryz.zeroValue4
  t5 := Tryz.underlying5
  a5 := Tryz.isAgg5
  z5 := Tryz.sizeOf5
  v5 := Tryz.zeroValue5
  t9 := Tryz.underlying9
  a9 := Tryz.isAgg9
  z9 := Tryz.sizeOf9
  v9 := Tryz.zeroValue9
  t21 := Tryz.underlying21
  a21 := Tryz.isAgg21
  z21 := Tryz.sizeOf21
  v21 := Tryz.zeroValue21
  t46 := Tryz.underlying144
  a46 := Tryz.isAgg144
  z46 := Tryz.sizeOf144
  v46 := Tryz.zeroValue144
  t105 := Tryz.underlying243
  a105 := Tryz.isAgg243
  z105 := Tryz.sizeOf243
  v105 := Tryz.zeroValue243
  t119 := Tryz.underlying273
  a119 := Tryz.isAgg273
  z119 := Tryz.sizeOf273
  t138 := Tryz.underlying275
  a138 := Tryz.isAgg275
  z138 := Tryz.sizeOf275
  v138 := Tryz.zeroValue275
  t139 := Tryz.underlying276
  a139 := Tryz.isAgg276
  z139 := Tryz.sizeOf276
  v139 := Tryz.zeroValue276
  g3 := by kernel_rfl
  g4 := by kernel_rfl }
def Tryz.lays260_ren : Go.Shelf.Ren := ⟨fun | 260 => 234 | n => n, fun | 9 => 9 | 21 => 21 | 3 => 3 | 4 => 4 | 5 => 5 | 119 => 273 | 0 => 0 | 46 => 144 | 139 => 276 | 138 => 275 | n => n, fun | 3 => 2 | 4 => 3 | n => n⟩
theorem Tryz.lays260 : Go.Proofs.Lays.n260 Tryz.prog Tryz.lays260_ren := {
  mixed := by kernel_rfl
  f260 := Tryz.func234.trans (congrArg some (by kernel_rfl))
  t0 := Tryz.underlying0
  a0 := Tryz.isAgg0
  z0 := Tryz.sizeOf0
  v0 := Tryz.zeroValue0
  t3 := Tryz.underlying3
  a3 := Tryz.isAgg3
  z3 := Tryz.sizeOf3
  v3 := Tryz.zeroValue3
  t4 := Tryz.underlying4
  a4 := Tryz.isAgg4
  z4 := Tryz.sizeOf4
  v4 := Tryz.zeroValue4
  t5 := Tryz.underlying5
  a5 := Tryz.isAgg5
  z5 := Tryz.sizeOf5
  v5 := Tryz.zeroValue5
  t9 := Tryz.underlying9
  a9 := Tryz.isAgg9
  z9 := Tryz.sizeOf9
  v9 := Tryz.zeroValue9
  t21 := Tryz.underlying21
  a21 := Tryz.isAgg21
  z21 := Tryz.sizeOf21
  v21 := Tryz.zeroValue21
  t46 := Tryz.underlying144
  a46 := Tryz.isAgg144
  z46 := Tryz.sizeOf144
  v46 := Tryz.zeroValue144
  t119 := Tryz.underlying273
  a119 := Tryz.isAgg273
  z119 := Tryz.sizeOf273
  t138 := Tryz.underlying275
  a138 := Tryz.isAgg275
  z138 := Tryz.sizeOf275
  v138 := Tryz.zeroValue275
  t139 := Tryz.underlying276
  a139 := Tryz.isAgg276
  z139 := Tryz.sizeOf276
  v139 := Tryz.zeroValue276
  g3 := by kernel_rfl
  g4 := by kernel_rfl }
open Go.RowKit Go.Lib in
/-- **unicode/utf8.DecodeRuneInString AT EVERY STRING.** (LAID: no walk: one application.) -/
theorem Tryz.utf8_DecodeRuneInString (s : ByteArray) (w : World) (hT : Lib.Utf8Tabs 2 3 w) :
    Calls Tryz.prog 205 #[.string s] w fun e w' => e = .returned (.tuple #[.int .i32 (Lib.decodeGo s).1, .int .i64 (Lib.decodeGo s).2]) ∧ Below w.heap.size w w' := Any.utf8_DecodeRuneInString Tryz.lays197 s w hT
end Go.Proofs
set_option linter.unusedVariables false
set_option linter.unusedSimpArgs false
namespace Go.Proofs.YtkihaebaccdjdaaGreatDoor
open Go.RowKit Go.Proofs.YtkihaebaccdjdaaGreatDoorW.PrintWords Go.Proofs.YtkihaebaccdjdaaGreatDoorW.PrintLast Go.Proofs.YtkihaebaccdjdaaGreatDoorW.PrintMore
namespace H
/-! ### smjson: NewEncoder, newValue -/
set_option maxHeartbeats 1000000 in
set_option maxRecDepth 100000 in
theorem jnewV (b sc : Nat) (w : World) :
    Calls Tryz.prog 86 #[.pointer (some ⟨b, 0, none⟩), .pointer (some ⟨sc, 0, none⟩)] w fun e w' => e = .returned (.agg #[.pointer (some ⟨b, 0, none⟩), .pointer (some ⟨sc, 0, none⟩)]) ∧ Below w.heap.size w w' := by
  go_enter Tryz.func86, Tryz.ntmps86
  go_wp2_with fail
  (try simp only [Exit.inBlock, Exit.then])
  refine bodyPost_ret (v := .agg #[.pointer (some ⟨b, 0, none⟩), .pointer (some ⟨sc, 0, none⟩)]) ?_ rfl ⟨rfl, ?_⟩
  · simp only [results]; go_simp
  · exact below_alloc (Below.refl _ _) _
theorem JB.made (T : TypeId) (hT : T ≠ 5) (w : World) (X : Nat → Prop) (hX : ∀ k, X k → k < w.heap.size) : JB T w.heap.size X w.heap.size [] (w.alloc (.cells #[.slice none 0 0] T)) := by
  have hs : (w.alloc (.cells #[.slice none 0 0] T)).heap.size = w.heap.size + 1 := by simp
  refine ⟨⟨.slice none 0 0, heap_new w _, World.ownsRow_nil _ _ _ _, fun k hk => by simp [Value.ownBlock] at hk⟩, Nat.le_refl _, fun e => by have := hX _ e; omega, fun k hk => by have := hX k hk; omega⟩
set_option maxHeartbeats 1000000 in
set_option maxRecDepth 100000 in
theorem jnewE (w : World) : Calls Tryz.prog 38 #[] w fun e w' => ∃ b sc eb, e = .returned (.pointer (some ⟨eb, 0, none⟩)) ∧ JB 150 w.heap.size (fun k => k = eb) b [] w' ∧ w.heap.size ≤ eb ∧
    w'.heap[eb]? = some (.cells #[.pointer (some ⟨b, 0, none⟩), .pointer (some ⟨b, 0, none⟩), .pointer (some ⟨sc, 0, none⟩)] 90 (0, 0)) ∧ Below w.heap.size w w' := by
  obtain ⟨i5, hi5, hz5⟩ := Option.map_eq_some_iff.1 inf5
  simp only [Prod.mk.injEq] at hz5
  obtain ⟨hz0, hz1, hz2⟩ := hz5
  have hmk : ∀ w : World, (Instr.makeSlice 22 (.int .i64 64) (.int .i64 64)).run Tryz.prog w = .ok (.slice (some ⟨w.heap.size, 0, none⟩) 64 64) (w.alloc (.cells (madeCells #[.int .u8 0] 64) 5)) := fun w => by
    have h := run_makeSlice (P := Tryz.prog) (w := w) 22 5 i5 (.int .u8 0) Tryz.underlying22 hi5 hz0 .i64 .i64 64 64 (by omega) (by omega) (by rw [hz1]; decide) (by rw [hz2]; decide) (by omega)
    rw [hz1] at h
    exact h
  go_enter Tryz.func38, Tryz.ntmps38
  go_wp2_with fail
  have hJ := JB.made 150 (by decide) w (fun _ => False) (fun _ h => h.elim)
  have hb0 := below_alloc (Below.refl w.heap.size w) (.cells #[.slice none 0 0] 150)
  have hb1 := below_alloc (below_alloc (Below.refl (w.alloc (.cells #[.slice none 0 0] 150)).heap.size (w.alloc (.cells #[.slice none 0 0] 150))) (.cells (madeCells #[.int .u8 0] 64) 5)) (.cells #[.slice (some ⟨w.heap.size + 1, 0, none⟩) 64 64] 22)
  have hJ1 := hJ.calm hb1
  have hB1 := below_then hb0 hb0.size hb1
  generalize ((w.alloc (.cells #[.slice none 0 0] 150)).alloc (.cells (madeCells #[.int .u8 0] 64) 5)).alloc (.cells #[.slice (some ⟨w.heap.size + 1, 0, none⟩) 64 64] 22) = w1 at *
  clear hJ hb0 hb1
  refine (jnewV w.heap.size (w.heap.size + 1 + 1) w1).mono ?_
  rintro e w2 ⟨rfl, hb2⟩
  have hJ2 := hJ1.calm hb2
  have hB2 := below_then hB1 hB1.size hb2
  go_wp2
  go_ret
  have hs := hB2.size
  have hb3 := below_alloc (Below.refl w2.heap.size w2) (.cells #[.pointer (some ⟨w.heap.size, 0, none⟩), .pointer (some ⟨w.heap.size, 0, none⟩), .pointer (some ⟨w.heap.size + 1 + 1, 0, none⟩)] 90)
  refine ⟨w.heap.size, w.heap.size + 1 + 1, w2.heap.size, rfl, ?_, hs, heap_new _ _, below_then hB2 hB2.size hb3⟩
  exact hJ2.re (fun k hk => .inr (by omega)) (fun k hk => by simp; omega) hb3
/-! ### Object, its end -/
theorem cv123 (w : World) : (convert 21 9 (.int .i32 123)).run Tryz.prog w = .ok (.string ⟨#[123]⟩) w := by kernel_rfl
theorem cv125 (w : World) : (convert 21 9 (.int .i32 125)).run Tryz.prog w = .ok (.string ⟨#[125]⟩) w := by kernel_rfl
theorem cv58 (w : World) : (convert 21 9 (.int .i32 58)).run Tryz.prog w = .ok (.string ⟨#[58]⟩) w := by kernel_rfl
theorem cv44 (w : World) : (convert 21 9 (.int .i32 44)).run Tryz.prog w = .ok (.string ⟨#[44]⟩) w := by kernel_rfl
theorem Wrote.calm {T : TypeId} {B b : Nat} {X : Nat → Prop} {xs : List Int} {w w1 w2 : World} (h : Wrote T B X b xs w w1) (hb : Below w1.heap.size w1 w2) : Wrote T B X b xs w w2 :=
  ⟨h.1.calm hb, h.2.trans (Fr.of_below (S := fun _ => False) hb) (fun _ _ h => h.elim)⟩
set_option maxHeartbeats 1000000 in
set_option maxRecDepth 100000 in
theorem jnewO {B b sc : Nat} {X : Nat → Prop} {xs : List Int} (w : World) (h : JB 150 B X b xs w) (hl : xs.length + 1 ≤ 140737488355328) :
    Calls Tryz.prog 157 #[.pointer (some ⟨b, 0, none⟩), .pointer (some ⟨sc, 0, none⟩)] w fun e w' => ∃ ob, e = .returned (.pointer (some ⟨ob, 0, none⟩)) ∧ Wrote 150 B X b (xs ++ [123]) w w' ∧ w.heap.size ≤ ob ∧ w'.heap[ob]? = some (.cells #[.pointer (some ⟨b, 0, none⟩), .bool false, .pointer (some ⟨sc, 0, none⟩)] 200 (0, 0)) ∧ ob + 1 = w'.heap.size := by
  replace h := Aside0.mk h
  go_enter Tryz.func157, Tryz.ntmps157
  go_wp2_with fail
  refine (jwr 123 ⟨#[123]⟩ cv123 w h.out (by show _ + 1 ≤ _; omega)).mono ?_
  rintro e w1 ⟨n, rfl, hw1⟩
  have hs := hw1.2.size
  go_wp2
  go_ret
  have hb3 := below_alloc (Below.refl w1.heap.size w1) (.cells #[.pointer (some ⟨b, 0, none⟩), .bool false, .pointer (some ⟨sc, 0, none⟩)] 200)
  exact ⟨w1.heap.size, rfl, hw1.calm hb3, hs, heap_new _ _, by simp⟩
set_option maxHeartbeats 1000000 in
set_option maxRecDepth 100000 in
theorem jobj {B b sc : Nat} {X : Nat → Prop} {xs : List Int} (w : World) (h : JB 150 B X b xs w) (hl : xs.length + 1 ≤ 140737488355328) :
    Calls Tryz.prog 95 #[.agg #[.pointer (some ⟨b, 0, none⟩), .pointer (some ⟨sc, 0, none⟩)]] w fun e w' => ∃ ob, e = .returned (.pointer (some ⟨ob, 0, none⟩)) ∧ Wrote 150 B X b (xs ++ [123]) w w' ∧ w.heap.size ≤ ob ∧ w'.heap[ob]? = some (.cells #[.pointer (some ⟨b, 0, none⟩), .bool false, .pointer (some ⟨sc, 0, none⟩)] 200 (0, 0)) ∧ ob + 1 = w'.heap.size := by
  replace h := Aside0.mk h
  go_enter Tryz.func95, Tryz.ntmps95
  go_wp2_with fail
  have hb := below_alloc (Below.refl w.heap.size w) (.cells #[.pointer (some ⟨b, 0, none⟩), .pointer (some ⟨sc, 0, none⟩)] 88)
  refine (jnewO (sc := sc) _ (h.out.calm hb) hl).mono ?_
  rintro e w1 ⟨ob, rfl, hw1, h1, h2, h3⟩
  go_wp2
  go_ret
  exact ⟨ob, rfl, ⟨hw1.1, (Fr.of_below (S := fun k => B ≤ k ∧ ¬ X k) hb).trans hw1.2 (fun _ _ h => h)⟩, by have := hb.size; omega, h2, h3⟩
set_option maxHeartbeats 1000000 in
set_option maxRecDepth 100000 in
theorem jclose {B b ob : Nat} {X : Nat → Prop} {xs : List Int} {v1 v2 : Value} (w : World) (h : JB 150 B X b xs w) (ho : w.cell? ⟨ob, 0, none⟩ = some (.pointer (some ⟨b, 0, none⟩))) (hl : xs.length + 1 ≤ 140737488355328) :
    Calls Tryz.prog 97 #[.pointer (some ⟨ob, 0, none⟩)] w fun e w' => e = .returned (.tuple #[]) ∧ Wrote 150 B X b (xs ++ [125]) w w' := by
  replace h := Aside0.mk h
  go_enter Tryz.func97, Tryz.ntmps97
  go_wp2_with fail
  refine (jwr 125 ⟨#[125]⟩ cv125 w h.out (by show _ + 1 ≤ _; omega)).mono ?_
  rintro e w1 ⟨n, rfl, hw1⟩
  go_wp2
  refine bodyPost_end (results_none rfl _ _ _) rfl ?_
  exact ⟨rfl, hw1⟩
set_option maxHeartbeats 1000000 in
set_option maxRecDepth 100000 in
theorem jtold {B b : Nat} {X : Nat → Prop} {xs : List Int} {v1 v2 : Option Addr} (w : World) (h : JB 150 B X b xs w) :
    Calls Tryz.prog 40 #[.agg #[.pointer (some ⟨b, 0, none⟩), .pointer v1, .pointer v2]] w fun e w' => e = .returned (.string (strOfNums xs)) ∧ Below w.heap.size w w' := by
  replace h := Aside0.mk h
  go_enter Tryz.func40, Tryz.ntmps40
  go_wp2_with fail
  have hb := below_alloc (Below.refl w.heap.size w) (.cells #[.pointer (some ⟨b, 0, none⟩), .pointer v1, .pointer v2] 90)
  refine (jstr _ (h.out.calm hb)).mono ?_
  rintro e w1 ⟨rfl, rfl⟩
  go_wp2
  go_ret
  exact ⟨rfl, hb⟩
end H
end Go.Proofs.YtkihaebaccdjdaaGreatDoor
