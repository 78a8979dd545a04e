import Derived.Shelf.Strings.Builder1
import Derived.Shelf.Strings.Builder2
import Derived.Shelf.Small.Utf8
import Derived.Shelf.Small.Bits
import Derived.Shelf.Small.Strs
import Derived.Shelf.Strconv.Itoa0
import Derived.Shelf.Strconv.Itoa1
import Derived.Shelf.LaysM
import Derived.Shelf.Strconv.Itoa2
import Derived.Shelf.Strconv.Itoa3
import Derived.Shelf.Strconv.Itoa4
import Derived.Shelf.Strconv.ParseIntEmpty
import Derived.Shelf.Strconv.Clone
import Derived.Shelf.Strconv.SyntaxError
import Derived.Shelf.LaysC
import Derived.Shelf.Strconv.ToError
import Derived.Shelf.Strconv.Lower
import Derived.Shelf.Strconv.ParseUint10
import Derived.Shelf.Strconv.ParseUint10Empty
import Derived.Shelf.Strconv.ParseUint10Any
import Derived.Shelf.Strconv.ParseInt10
import Derived.Shelf.Strconv.RangeError
import Derived.Shelf.Strconv.ToErrorRange
import Derived.Shelf.Strconv.ParseUintEmpty
import Derived.Shelf.Strconv.ParseUint10b64
import Derived.Shelf.Strconv.ParseUint10b32
import Derived.Shelf.Strconv.ParseUint10b16
import Derived.Shelf.Strconv.ParseUint10b8
import Derived.Shelf.Strconv.ParseUint10At
import Derived.Shelf.Strconv.ParseInt10At64
import Derived.Shelf.Strconv.ParseInt10At32
import Derived.Shelf.Strconv.ParseInt10At16
import Derived.Shelf.Strconv.ParseInt10At8
import Derived.Shelf.Strconv.ParseInt10All
import Derived.Shelf.Strconv.ParseIntPublic10
import Derived.Shelf.Strings.Search1
import Derived.Shelf.Unicode.Latin
import Derived.Shelf.Unicode.DecodeSlow
import Derived.Shelf.Unicode.DecodeAny
import Derived.Shelf.Unicode.Is16White
import Derived.Shelf.Unicode.IsSpaceAny
import Derived.Shelf.Unicode.DecodeLast
import Derived.Shelf.Unicode.Is16Any
import Derived.Shelf.Unicode.Is32Any
import Derived.Shelf.Unicode.ExclAny
import Derived.Test.YtclmjmfcggkpaaaGreatDoorProg
import Derived.Test.YtclmjmfcggkpaaaGreatDoorU8
/-
  DERIVED: THE SHELF's CONTRACTS AT THIS DUMP, IN PLAIN WORDS (tools/lay-plain.mjs out of 'TryzShelf.lean', which tools/lay-shelf.mjs wrote): THE SAME DECLARATIONS UNDER THE SAME NAMES: 'import', 'namespace', 'open', 'def', 'theorem' AND NOTHING ELSE: no command of the shelf's: FOR A HAND-IN. Each laying: the table of numbers ('.._ren') and one theorem, a field a fact of the dump's own or the kernel's comparison; each contract: ONE APPLICATION.
-/
namespace Go.Proofs
open Go.Shelf
def Tryz.lays169_ren : Go.Shelf.Ren := ⟨fun | 169 => 130 | n => n, fun | 70 => 170 | 9 => 9 | 0 => 0 | 72 => 172 | 37 => 104 | 127 => 191 | 3 => 3 | 5 => 5 | n => n, fun | n => n⟩
theorem Tryz.lays169 : Go.Proofs.Lays.n169 Tryz.prog Tryz.lays169_ren := {
 mixed := by kernel_rfl
 f169 := Tryz.func130.trans (congrArg some (by kernel_rfl))
 t0 := Tryz.underlying0
 a0 := Tryz.isAgg0
 z0 := Tryz.sizeOf0
 v0 := Tryz.zeroValue0
 t3 := Tryz.underlying3
 a3 := Tryz.isAgg3
 z3 := Tryz.sizeOf3
 v3 := Tryz.zeroValue3
 t9 := Tryz.underlying9
 a9 := Tryz.isAgg9
 z9 := Tryz.sizeOf9
 v9 := Tryz.zeroValue9
 t37 := Tryz.underlying104
 a37 := Tryz.isAgg104
 z37 := Tryz.sizeOf104
 v37 := Tryz.zeroValue104
 t70 := Tryz.underlying170
 a70 := Tryz.isAgg170
 z70 := Tryz.sizeOf170
 v70 := Tryz.zeroValue170
 t72 := Tryz.underlying172
 a72 := Tryz.isAgg172
 z72 := Tryz.sizeOf172
 v72 := Tryz.zeroValue172
 t127 := Tryz.underlying191
 a127 := Tryz.isAgg191
 z127 := Tryz.sizeOf191
 v127 := Tryz.zeroValue191 }
theorem Tryz.Builder_Extra_169 : Builder.Extra Tryz.prog Tryz.lays169_ren := {
 sizeBuilder := by kernel_rfl
 liesBuilder := by kernel_rfl
 t5 := Tryz.underlying5
 a5 := Tryz.isAgg5
 z5 := Tryz.sizeOf5
 v5 := Tryz.zeroValue5
 infoByte := by kernel_rfl
 cellsByte := by kernel_rfl
 sizeByte := by kernel_rfl
 neB5 := by decide }
open Go.RowKit in
/-- (*strings.Builder).String: "String returns the accumulated string.": WHATEVER THE BUILDER HOLDS. (LAID: no walk: one application.) -/
theorem Tryz.Builder_String_any (B b : Nat) (l : List UInt8) (w : World) (h : Lib.IsBuilder 172 5 B b (Lib.byteCells l) w) (hBw : B ≤ w.heap.size) :
 Calls Tryz.prog 130 #[.pointer (some ⟨b, 0, none⟩)] w fun e w' => e = .returned (.string ⟨l.toArray⟩) ∧ Below B w w' := Any.Builder_String_any Tryz.lays169 Tryz.Builder_Extra_169 B b l w h hBw
def Tryz.lays165_ren : Go.Shelf.Ren := ⟨fun | 165 => 136 | 240 => 150 | 241 => 156 | 276 => 184 | 277 => 189 | n => n, fun | 70 => 170 | 3 => 3 | 0 => 0 | 4 => 4 | 9 => 9 | 20 => 20 | 72 => 172 | 37 => 104 | 164 => 221 | 5 => 5 | n => n, fun | n => n⟩
theorem Tryz.lays165 : Go.Proofs.Lays.n165 Tryz.prog Tryz.lays165_ren := {
 mixed := by kernel_rfl
 f165 := Tryz.func136.trans (congrArg some (by kernel_rfl))
 f240 := Tryz.func150.trans (congrArg some (by kernel_rfl))
 f241 := Tryz.func156.trans (congrArg some (by kernel_rfl))
 f276 := Tryz.func184.trans (congrArg some (by kernel_rfl))
 f277 := Tryz.func189.trans (congrArg some (by kernel_rfl))
 t0 := Tryz.underlying0
 a0 := Tryz.isAgg0
 z0 := Tryz.sizeOf0
 v0 := Tryz.zeroValue0
 t3 := Tryz.underlying3
 a3 := Tryz.isAgg3
 z3 := Tryz.sizeOf3
 v3 := Tryz.zeroValue3
 t4 := Tryz.underlying4
 a4 := Tryz.isAgg4
 z4 := Tryz.sizeOf4
 v4 := Tryz.zeroValue4
 t9 := Tryz.underlying9
 a9 := Tryz.isAgg9
 z9 := Tryz.sizeOf9
 v9 := Tryz.zeroValue9
 t20 := Tryz.underlying20
 a20 := Tryz.isAgg20
 z20 := Tryz.sizeOf20
 v20 := Tryz.zeroValue20
 t37 := Tryz.underlying104
 a37 := Tryz.isAgg104
 z37 := Tryz.sizeOf104
 v37 := Tryz.zeroValue104
 t70 := Tryz.underlying170
 a70 := Tryz.isAgg170
 z70 := Tryz.sizeOf170
 v70 := Tryz.zeroValue170
 t72 := Tryz.underlying172
 a72 := Tryz.isAgg172
 z72 := Tryz.sizeOf172
 v72 := Tryz.zeroValue172
 t164 := Tryz.underlying221
 a164 := Tryz.isAgg221
 z164 := Tryz.sizeOf221
 v164 := Tryz.zeroValue221 }
theorem Tryz.Builder_Extra_165 : Builder.Extra Tryz.prog Tryz.lays165_ren := {
 sizeBuilder := by kernel_rfl
 liesBuilder := by kernel_rfl
 t5 := Tryz.underlying5
 a5 := Tryz.isAgg5
 z5 := Tryz.sizeOf5
 v5 := Tryz.zeroValue5
 infoByte := by kernel_rfl
 cellsByte := by kernel_rfl
 sizeByte := by kernel_rfl
 neB5 := by decide }
open Go.RowKit in
/-- (*strings.Builder).Grow AT A BUILDER THAT HAS NOT BEEN WRITTEN ('var b strings.Builder; b.Grow(n)'): "Grow grows b's capacity, if necessary, to guarantee space for another n bytes.": it holds no byte behind it as before it. (LAID: no walk: one application.) -/
theorem Tryz.Builder_Grow_fresh (B b n : Nat) (w : World) (hB : B ≤ b) (hbk : w.heap[b]? = some (.cells #[.pointer none, .slice none 0 0] 172 (0, 0))) (hBw : B ≤ w.heap.size) (hn : n ≤ 281474976710656) :
 Calls Tryz.prog 136 #[.pointer (some ⟨b, 0, none⟩), .int .i64 n] w fun e w' => e = .returned (.tuple #[]) ∧ (Lib.BuilderAt 172 5 B b (.pointer (some ⟨b, 0, none⟩)) [] w' ∧ Below B w w') := Any.Builder_Grow_fresh Tryz.lays165 Tryz.Builder_Extra_165 B b n w hB hbk hBw hn
def Tryz.laysM173_ren : Go.Shelf.Ren := ⟨fun | 173 => 141 | 246 => 166 | 283 => 193 | 284 => 194 | 285 => 195 | 286 => 196 | 129 => 183 | 317 => 209 | 318 => 210 | 319 => 211 | 320 => 212 | 337 => 215 | 338 => 216 | n => n, fun | 2 => 2 | 3 => 3 | 9 => 9 | 4 => 4 | 171 => 231 | 0 => 0 | 53 => 111 | 37 => 104 | 5 => 5 | 173 => 233 | 212 => 254 | 51 => 205 | 20 => 20 | 213 => 255 | 46 => 106 | 232 => 264 | 233 => 180 | n => n, fun | 17 => 6 | 18 => 9 | 19 => 10 | n => n⟩
theorem Tryz.laysM173 : Go.Proofs.LaysM.n173 Tryz.prog Tryz.laysM173_ren := {
 mixed := by kernel_rfl
 f129 := Tryz.func183.trans (congrArg some (by kernel_rfl))
 f173 := Tryz.func141.trans (congrArg some (by kernel_rfl))
 f246 := Tryz.func166.trans (congrArg some (by kernel_rfl))
 f283 := Tryz.func193.trans (congrArg some (by kernel_rfl))
 f284 := Tryz.func194.trans (congrArg some (by kernel_rfl))
 f285 := Tryz.func195.trans (congrArg some (by kernel_rfl))
 f286 := Tryz.func196.trans (congrArg some (by kernel_rfl))
 f317 := Tryz.func209.trans (congrArg some (by kernel_rfl))
 f318 := Tryz.func210.trans (congrArg some (by kernel_rfl))
 f319 := Tryz.func211.trans (congrArg some (by kernel_rfl))
 f320 := Tryz.func212.trans (congrArg some (by kernel_rfl))
 f337 := Tryz.func215.trans (congrArg some (by kernel_rfl))
 f338 := Tryz.func216.trans (congrArg some (by kernel_rfl))
 t0 := Tryz.underlying0
 a0 := Tryz.isAgg0
 z0 := Tryz.sizeOf0
 v0 := Tryz.zeroValue0
 t2 := Tryz.underlying2
 a2 := Tryz.isAgg2
 z2 := Tryz.sizeOf2
 v2 := Tryz.zeroValue2
 t3 := Tryz.underlying3
 a3 := Tryz.isAgg3
 z3 := Tryz.sizeOf3
 v3 := Tryz.zeroValue3
 t4 := Tryz.underlying4
 a4 := Tryz.isAgg4
 z4 := Tryz.sizeOf4
 v4 := Tryz.zeroValue4
 t5 := Tryz.underlying5
 a5 := Tryz.isAgg5
 z5 := Tryz.sizeOf5
 v5 := Tryz.zeroValue5
 t9 := Tryz.underlying9
 a9 := Tryz.isAgg9
 z9 := Tryz.sizeOf9
 v9 := Tryz.zeroValue9
 t20 := Tryz.underlying20
 a20 := Tryz.isAgg20
 z20 := Tryz.sizeOf20
 v20 := Tryz.zeroValue20
 t37 := Tryz.underlying104
 a37 := Tryz.isAgg104
 z37 := Tryz.sizeOf104
 v37 := Tryz.zeroValue104
 t46 := Tryz.underlying106
 a46 := Tryz.isAgg106
 z46 := Tryz.sizeOf106
 v46 := Tryz.zeroValue106
 t51 := Tryz.underlying205
 a51 := Tryz.isAgg205
 z51 := Tryz.sizeOf205
 v51 := Tryz.zeroValue205
 t53 := Tryz.underlying111
 a53 := Tryz.isAgg111
 z53 := Tryz.sizeOf111
 v53 := Tryz.zeroValue111
 t171 := Tryz.underlying231
 a171 := Tryz.isAgg231
 z171 := Tryz.sizeOf231
 v171 := Tryz.zeroValue231
 t173 := Tryz.underlying233
 a173 := Tryz.isAgg233
 z173 := Tryz.sizeOf233
 v173 := Tryz.zeroValue233
 t212 := Tryz.underlying254
 a212 := Tryz.isAgg254
 z212 := Tryz.sizeOf254
 v212 := Tryz.zeroValue254
 t213 := Tryz.underlying255
 a213 := Tryz.isAgg255
 z213 := Tryz.sizeOf255
 t232 := Tryz.underlying264
 a232 := Tryz.isAgg264
 z232 := Tryz.sizeOf264
 v232 := Tryz.zeroValue264
 t233 := Tryz.underlying180
 a233 := Tryz.isAgg180
 z233 := Tryz.sizeOf180
 v233 := Tryz.zeroValue180
 g17 := by kernel_rfl
 g18 := by kernel_rfl
 g19 := by kernel_rfl
 i0 := by kernel_rfl
 i2 := by kernel_rfl
 i3 := by kernel_rfl
 i4 := by kernel_rfl
 i5 := by kernel_rfl
 i9 := by kernel_rfl
 i20 := by kernel_rfl
 i37 := by kernel_rfl
 i46 := by kernel_rfl
 i51 := by kernel_rfl
 i53 := by kernel_rfl
 i171 := by kernel_rfl
 i173 := by kernel_rfl
 i212 := by kernel_rfl
 i232 := by kernel_rfl
 i233 := by kernel_rfl
 m17 := by kernel_rfl
 m18 := by kernel_rfl
 m19 := by kernel_rfl }
open Go.RowKit Go.Sort Go.Lib in
/-- strconv.FormatInt: "FormatInt returns the string representation of i in the given base": AT BASE 10: i's decimal numeral, for every int64. (LAID: no walk: one application.) -/
theorem Tryz.strconv_FormatInt_10 (n : Int) (h0 : -9223372036854775808 ≤ n) (h1 : n ≤ 9223372036854775807) (w : World) (htab : Lib.TabIs Tryz.prog w "internal/strconv.uint64pow10" .u64 Lib.pow10Tab) :
 Calls Tryz.prog 141 #[.int .i64 n, .int .i64 10] w fun e w' => e = .returned (.string ⟨(Lib.itoa n).toArray⟩) ∧ ∃ k os, w' = grow (w.drewN k) os := Any.strconv_FormatInt_10 Tryz.laysM173 n h0 h1 w htab
end Go.Proofs
namespace Go.Proofs.YtclmjmfcggkpaaaGreatDoor
open Go.RowKit Go.Proofs.YtclmjmfcggkpaaaGreatDoorW.PrintWords Go.Proofs.YtclmjmfcggkpaaaGreatDoorW.PrintLast Go.Proofs.YtclmjmfcggkpaaaGreatDoorW.PrintMore
namespace H
/-! ### A strings.Builder that has been used -/
/-- The builder at block b, used, holds the bytes xs; its row lies from b on. -/
def SB (w : World) (b : Nat) (xs : List Int) : Prop := Lib.BuilderAt 172 5 b b (.pointer (some ⟨b, 0, none⟩)) (nums .u8 xs) w
theorem SB.lt {w : World} {b : Nat} {xs : List Int} (h : SB w b xs) : b < w.heap.size := Lib.BuilderAt.lt h
theorem SB.below {w w' : World} {b : Nat} {xs : List Int} (h : SB w b xs) (hb : Below w.heap.size w w') : SB w' b xs := by
 obtain ⟨h0, v, h1, h2, h3⟩ := h
 exact ⟨h0, v, (hb.block b (lt_of h1)).trans h1, pw_own_below h2 hb, h3⟩
set_option maxHeartbeats 400000 in
set_option maxRecDepth 100000 in
theorem cc_used (b : Nat) (w : World) (hc : w.cell? ⟨b, 0, none⟩ = some (.pointer (some ⟨b, 0, none⟩))) :
 Calls Tryz.prog 150 #[.pointer (some ⟨b, 0, none⟩)] w fun e w' => e = .returned (.tuple #[]) ∧ w = w' := by
 obtain ⟨j, hj⟩ := Option.isSome_iff_exists.1 (show (Tryz.prog.info? 172).isSome = true by kernel_rfl)
 go_enter Tryz.func150, Tryz.ntmps150
 go_wp2
 rw [Lib.run_neq_ptr_same w _ Tryz.underlying170 hj]
 go_wp2
 go_end0
 exact ⟨rfl, rfl⟩
set_option maxHeartbeats 400000 in
set_option maxRecDepth 100000 in
theorem sbWB (b : Nat) (xs : List Int) (c : Int) (w : World) (hB : SB w b xs) (hl : xs.length + 1 ≤ 140737488355328) :
 Calls Tryz.prog 128 #[.pointer (some ⟨b, 0, none⟩), .int .u8 c] w fun e w' => e = .returned .nilIface ∧ SB w' b (xs ++ [c]) ∧ Below b w w' := by
 obtain ⟨_, v, hb, ho, hne⟩ := hB
 rw [nums_length] at ho
 have hc := cell_at hb 1
 have hc0 := cell_at hb 0
 simp only [List.getElem?_toArray, List.getElem?_cons_zero, List.getElem?_cons_succ] at hc hc0
 have hlt : b < w.heap.size := lt_of hb
 have Hb := Aside0.mk hb; clear hb
 have Ho := Aside0.mk ho; clear ho
 have Hne := Aside0.mk hne; clear hne
 go_enter Tryz.func128, Tryz.ntmps128
 go_wp2_with (first | (go_at_call 150; refine (cc_used b _ hc0).mono ?_; rintro e w' ⟨rfl, rfl⟩) | (at_builtin; refine print_append_num (w0 := w) b rfl (.tmp 11) (.tmp 13) 104 5 .u8 1 rfl Tryz.underlying104 inf5 (by omega) v xs c rfl rfl Ho.out (Below.refl _ _) (by omega) (by omega) ?_; intro v1 w1 ho1 hb1 hg1 hat1; obtain ⟨A1, c1, rfl⟩ := own_slice ho1; have hB1 := hg1.block b (by omega) (fun e => Hne.out e.symm); rw [Hb.out] at hB1; have hc1 := cell_at hB1 1; have hf1 := free_of hB1 1; simp only [List.getElem?_toArray, List.getElem?_cons_zero, List.getElem?_cons_succ] at hc1; have HN1 := Aside0.mk (show (Value.slice A1 (xs ++ [c]).length c1).ownBlock ≠ some b from by rcases hat1 with h | ⟨q, h, hq⟩; (rw [h]; exact Hne.out); (rw [h]; intro e; injection e with e; omega)); have HB1 := Aside0.mk hB1; have HO1 := Aside0.mk ho1; clear hB1 ho1 hg1 hat1))
 go_ret
 refine ⟨rfl, ⟨Nat.le_refl _, _, by simpa using heap_set HB1.out 1 _, ?_, ?_⟩, Below.setCell (B := b) (p := ⟨b, 1, none⟩) hb1 (Nat.le_refl _) _⟩
 ·rw [nums_length]; simpa using own_set (p := ⟨b, 1, none⟩) HO1.out (fun k hk => fun e => HN1.out (by rw [hk]; exact congrArg some e)) _
 ·simpa using HN1.out
end H
end Go.Proofs.YtclmjmfcggkpaaaGreatDoor
