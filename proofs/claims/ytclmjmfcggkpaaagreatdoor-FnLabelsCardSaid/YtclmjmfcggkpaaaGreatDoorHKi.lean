import Derived.Test.YtclmjmfcggkpaaaGreatDoorHEd
import Derived.Test.YtclmjmfcggkpaaaGreatDoorShelf
import Derived.Test.YtclmjmfcggkpaaaGreatDoorPB
import Derived.Lib.SmallJoins
set_option linter.unusedVariables false
set_option linter.unusedSimpArgs false
namespace Go.Proofs.YtclmjmfcggkpaaaGreatDoor
open Go.RowKit Go.Proofs.YtclmjmfcggkpaaaGreatDoorW.PrintWords Go.Proofs.YtclmjmfcggkpaaaGreatDoorW.PrintLast Go.Proofs.YtclmjmfcggkpaaaGreatDoorW.PrintMore
namespace H
/-! ### Values of a path by their kinds -/
def Pow (w : World) : Prop := Lib.TabIs Tryz.prog w "internal/strconv.uint64pow10" .u64 Lib.pow10Tab
theorem pow_at : (Tryz.prog.globalNamed "internal/strconv.uint64pow10").isSome = true := by kernel_rfl
theorem Pow.below {w w' : World} (h : Pow w) (hb : Below w.heap.size w w') : Pow w' := by
  obtain ⟨g, hg⟩ := Option.isSome_iff_exists.1 pow_at
  exact Go.Joins.tab_stays hg h hb (Nat.le_refl _)
theorem grow_below (w : World) (k : Nat) (os : Array Obj) : Below w.heap.size w (Go.Sort.grow (w.drewN k) os) :=
  ⟨rfl, rfl, rfl, by show _ ≤ (w.heap ++ os).size; simp, fun i hi => by show (w.heap ++ os)[i]? = _; rw [Array.getElem?_append_left hi]⟩
def decS (n : Int) : ByteArray := ⟨(Lib.itoa n).toArray⟩
theorem fmtInt_call (n : Int) (h0 : -9223372036854775808 ≤ n) (h1 : n ≤ 9223372036854775807) (w : World) (hT : Pow w) :
    Calls Tryz.prog 141 #[.int .i64 n, .int .i64 10] w fun e w' => e = .returned (.string (decS n)) ∧ Below w.heap.size w w' :=
  (Tryz.strconv_FormatInt_10 n h0 h1 w hT).mono fun e w' ⟨he, k, os, hw⟩ => ⟨he, by rw [hw]; exact grow_below w k os⟩
def boolS (b : Bool) : ByteArray := if b then ⟨#[116, 114, 117, 101]⟩ else ⟨#[102, 97, 108, 115, 101]⟩
theorem fmtBool_call (b : Bool) (w : World) : Calls Tryz.prog 140 #[.bool b] w fun e w' => e = .returned (.string (boolS b)) ∧ Drawn0 w w' :=
  PX.strconv_FormatBool_140.calls b _ w (by cases b <;> rfl)
set_option maxHeartbeats 400000 in
set_option maxRecDepth 100000 in
theorem long_call {B eb : Nat} {q h : Value} {p r : List Int} {key : ByteArray} {n : Int} {po ro : List Int} {w : World} (H : Lab B eb q h p r key (decS n) po ro w) (hT : Pow w) (h0 : -9223372036854775808 ≤ n) (h1 : n ≤ 9223372036854775807) :
    Calls Tryz.prog 104 #[UV eb key, .int .i64 n] w (ModP B eb q h po ro w) := by
  have hlt := H.enc.lt.1
  replace H := Aside0.mk H
  replace hT := Aside0.mk hT
  unfold UV
  go_enter Tryz.func104, Tryz.ntmps104
  go_wp2_with fail
  have hu := heap_new w (.cells #[.pointer (some ⟨eb, 0, none⟩), .pointer (some ⟨eb, 1, none⟩), .pointer (some ⟨eb, 2, none⟩), .string key] 116)
  have hb1 := below_alloc (Below.refl w.heap.size w) (.cells #[.pointer (some ⟨eb, 0, none⟩), .pointer (some ⟨eb, 1, none⟩), .pointer (some ⟨eb, 2, none⟩), .string key] 116)
  generalize w.alloc (.cells #[.pointer (some ⟨eb, 0, none⟩), .pointer (some ⟨eb, 1, none⟩), .pointer (some ⟨eb, 2, none⟩), .string key] 116) = w1 at *
  have hne : w.heap.size ≠ eb := by omega
  have hb1' := Aside0.mk hb1; clear hb1
  generalize hub : w.heap.size = ub at *
  have c0 := cell_at hu 0; have c1 := cell_at hu 1; have c2 := cell_at hu 2; have c3 := cell_at hu 3
  simp at c0 c1 c2 c3
  replace hu := Aside0.mk hu
  have hin := fun w => @modL B eb q h p r key (decS n) po ro w
  unfold UV at hin
  replace hin := Aside0.mk hin
  go_region_held3 (fun w' => w'.cell? ⟨ub, 0, none⟩ = some (.pointer (some ⟨eb, 0, none⟩)) ∧ w'.cell? ⟨ub, 1, none⟩ = some (.pointer (some ⟨eb, 1, none⟩)) ∧ w'.cell? ⟨ub, 2, none⟩ = some (.pointer (some ⟨eb, 2, none⟩)) ∧ w'.cell? ⟨ub, 3, none⟩ = some (.string key)) (go_keep) (first | ((go_at_call 141; refine (fmtInt_call n h0 h1 _ ((hT.out.below (by rw [hub]; exact hb1'.out)).below (below_drew (Below.refl _ _)))).mono ?_; rintro e w2 ⟨rfl, hb⟩; have h := Fr.heap (Fr.of_below (S := fun _ => False) hb) hu.out (fun h => h); have e0 := cell_at h 0; have e1 := cell_at h 1; have e2 := cell_at h 2; have e3 := cell_at h 3; simp at e0 e1 e2 e3; replace h := Aside0.mk h; replace hb := Aside0.mk hb)) | ((go_at_call 139; refine (hin.out w2 (H.out.below (below_two (by rw [hub]; exact hb1'.out) hb.out))).mono ?_; rintro e w3 ⟨rfl, h2, h3⟩; have h4 := Lab.heap h3 h.out hne (by simp); have g0 := cell_at h4 0; have g1 := cell_at h4 1; have g2 := cell_at h4 2; have g3 := cell_at h4 3; simp at g0 g1 g2 g3)))
  go_wp2
  go_ret
  subst hub
  exact ModP.from (below_then (below_drew hb1'.out) (below_drew hb1'.out).size hb.out) ⟨rfl, h2, h3⟩
set_option maxHeartbeats 400000 in
set_option maxRecDepth 100000 in
theorem bool_call {B eb : Nat} {q h : Value} {p r : List Int} {key : ByteArray} {b : Bool} {po ro : List Int} {w : World} (H : Lab B eb q h p r key (boolS b) po ro w) :
    Calls Tryz.prog 100 #[UV eb key, .bool b] w (ModP B eb q h po ro w) := by
  have hlt := H.enc.lt.1
  replace H := Aside0.mk H
  unfold UV
  go_enter Tryz.func100, Tryz.ntmps100
  go_wp2_with fail
  have hu := heap_new w (.cells #[.pointer (some ⟨eb, 0, none⟩), .pointer (some ⟨eb, 1, none⟩), .pointer (some ⟨eb, 2, none⟩), .string key] 116)
  have hb1 := below_alloc (Below.refl w.heap.size w) (.cells #[.pointer (some ⟨eb, 0, none⟩), .pointer (some ⟨eb, 1, none⟩), .pointer (some ⟨eb, 2, none⟩), .string key] 116)
  generalize w.alloc (.cells #[.pointer (some ⟨eb, 0, none⟩), .pointer (some ⟨eb, 1, none⟩), .pointer (some ⟨eb, 2, none⟩), .string key] 116) = w1 at *
  have hne : w.heap.size ≠ eb := by omega
  have hb1' := Aside0.mk hb1; clear hb1
  generalize hub : w.heap.size = ub at *
  have c0 := cell_at hu 0; have c1 := cell_at hu 1; have c2 := cell_at hu 2; have c3 := cell_at hu 3
  simp at c0 c1 c2 c3
  replace hu := Aside0.mk hu
  have hin := fun w => @modL B eb q h p r key (boolS b) po ro w
  unfold UV at hin
  replace hin := Aside0.mk hin
  go_region_held3 (fun w' => w'.cell? ⟨ub, 0, none⟩ = some (.pointer (some ⟨eb, 0, none⟩)) ∧ w'.cell? ⟨ub, 1, none⟩ = some (.pointer (some ⟨eb, 1, none⟩)) ∧ w'.cell? ⟨ub, 2, none⟩ = some (.pointer (some ⟨eb, 2, none⟩)) ∧ w'.cell? ⟨ub, 3, none⟩ = some (.string key)) (go_keep) (first | ((go_at_call 140; refine (fmtBool_call b _).mono ?_; rintro e w2 ⟨rfl, hd⟩; have hb := hd.below; clear hd; have h := Fr.heap (Fr.of_below (S := fun _ => False) hb) hu.out (fun h => h); have e0 := cell_at h 0; have e1 := cell_at h 1; have e2 := cell_at h 2; have e3 := cell_at h 3; simp at e0 e1 e2 e3; replace h := Aside0.mk h; replace hb := Aside0.mk hb)) | ((go_at_call 139; refine (hin.out w2 (H.out.below (below_two (by rw [hub]; exact hb1'.out) hb.out))).mono ?_; rintro e w3 ⟨rfl, h2, h3⟩; have h4 := Lab.heap h3 h.out hne (by simp); have g0 := cell_at h4 0; have g1 := cell_at h4 1; have g2 := cell_at h4 2; have g3 := cell_at h4 3; simp at g0 g1 g2 g3)))
  go_wp2
  go_ret
  subst hub
  exact ModP.from (below_then (below_drew hb1'.out) (below_drew hb1'.out).size hb.out) ⟨rfl, h2, h3⟩
set_option maxHeartbeats 400000 in
set_option maxRecDepth 100000 in
theorem long101_call {B eb : Nat} {q h : Value} {p r : List Int} {key : ByteArray} {n : Int} {po ro : List Int} {w : World} (H : Lab B eb q h p r key (decS n) po ro w) (hT : Pow w) (h0 : -128 ≤ n) (h1 : n ≤ 127) :
    Calls Tryz.prog 101 #[UV eb key, .int .i8 n] w (ModP B eb q h po ro w) := by
  replace H := Aside0.mk H
  replace hT := Aside0.mk hT
  unfold UV
  go_enter Tryz.func101, Tryz.ntmps101
  go_wp2_with fail
  have hb := below_alloc (Below.refl w.heap.size w) (.cells #[.pointer (some ⟨eb, 0, none⟩), .pointer (some ⟨eb, 1, none⟩), .pointer (some ⟨eb, 2, none⟩), .string key] 116)
  have hc := long_call (H.out.below hb) (hT.out.below hb) (by omega) (by omega)
  unfold UV at hc
  refine hc.mono ?_
  rintro e w' ⟨rfl, h1, h2⟩
  go_wp2
  go_ret
  exact ModP.from hb ⟨rfl, h1, h2⟩
set_option maxHeartbeats 400000 in
set_option maxRecDepth 100000 in
theorem long102_call {B eb : Nat} {q h : Value} {p r : List Int} {key : ByteArray} {n : Int} {po ro : List Int} {w : World} (H : Lab B eb q h p r key (decS n) po ro w) (hT : Pow w) (h0 : -32768 ≤ n) (h1 : n ≤ 32767) :
    Calls Tryz.prog 102 #[UV eb key, .int .i16 n] w (ModP B eb q h po ro w) := by
  replace H := Aside0.mk H
  replace hT := Aside0.mk hT
  unfold UV
  go_enter Tryz.func102, Tryz.ntmps102
  go_wp2_with fail
  have hb := below_alloc (Below.refl w.heap.size w) (.cells #[.pointer (some ⟨eb, 0, none⟩), .pointer (some ⟨eb, 1, none⟩), .pointer (some ⟨eb, 2, none⟩), .string key] 116)
  have hc := long_call (H.out.below hb) (hT.out.below hb) (by omega) (by omega)
  unfold UV at hc
  refine hc.mono ?_
  rintro e w' ⟨rfl, h1, h2⟩
  go_wp2
  go_ret
  exact ModP.from hb ⟨rfl, h1, h2⟩
set_option maxHeartbeats 400000 in
set_option maxRecDepth 100000 in
theorem long103_call {B eb : Nat} {q h : Value} {p r : List Int} {key : ByteArray} {n : Int} {po ro : List Int} {w : World} (H : Lab B eb q h p r key (decS n) po ro w) (hT : Pow w) (h0 : -2147483648 ≤ n) (h1 : n ≤ 2147483647) :
    Calls Tryz.prog 103 #[UV eb key, .int .i32 n] w (ModP B eb q h po ro w) := by
  replace H := Aside0.mk H
  replace hT := Aside0.mk hT
  unfold UV
  go_enter Tryz.func103, Tryz.ntmps103
  go_wp2_with fail
  have hb := below_alloc (Below.refl w.heap.size w) (.cells #[.pointer (some ⟨eb, 0, none⟩), .pointer (some ⟨eb, 1, none⟩), .pointer (some ⟨eb, 2, none⟩), .string key] 116)
  have hc := long_call (H.out.below hb) (hT.out.below hb) (by omega) (by omega)
  unfold UV at hc
  refine hc.mono ?_
  rintro e w' ⟨rfl, h1, h2⟩
  go_wp2
  go_ret
  exact ModP.from hb ⟨rfl, h1, h2⟩
/-- The text of a value of a kind. -/
def kindS (kind : Int) (text : ByteArray) (num : Int) : ByteArray :=
  if kind = 1 then boolS (num != 0) else if kind = 2 then decS (IntKind.i8.wrap num) else if kind = 3 then decS (IntKind.i16.wrap num) else if kind = 4 then decS (wrap32 num) else if kind = 5 then decS num else text
theorem i8_eq (n : Int) : IntKind.i8.wrap n = if 128 ≤ n % 256 then n % 256 - 256 else n % 256 := by simp [IntKind.wrap, IntKind.bits, IntKind.signed]
theorem i16_eq (n : Int) : IntKind.i16.wrap n = if 32768 ≤ n % 65536 then n % 65536 - 65536 else n % 65536 := by simp [IntKind.wrap, IntKind.bits, IntKind.signed]
theorem i8_rng (n : Int) : -128 ≤ IntKind.i8.wrap n ∧ IntKind.i8.wrap n ≤ 127 := by
  rw [i8_eq]
  by_cases h : 128 ≤ n % 256
  · rw [if_pos h]; omega
  · rw [if_neg h]; omega
theorem i16_rng (n : Int) : -32768 ≤ IntKind.i16.wrap n ∧ IntKind.i16.wrap n ≤ 32767 := by
  rw [i16_eq]
  by_cases h : 32768 ≤ n % 65536
  · rw [if_pos h]; omega
  · rw [if_neg h]; omega
theorem i32_rng (n : Int) : -2147483648 ≤ wrap32 n ∧ wrap32 n ≤ 2147483647 := by unfold wrap32; omega
set_option maxHeartbeats 400000 in
set_option maxRecDepth 100000 in
theorem inURI0 {B eb : Nat} {q h : Value} {p r : List Int} {key text : ByteArray} {num : Int} {po ro : List Int} {w : World} (H : Lab B eb q h p r key text po ro w) (hT : Pow w) (hn : -9223372036854775808 ≤ num ∧ num ≤ 9223372036854775807) (wh : Int) (pre key' : ByteArray) :
    Calls Tryz.prog 70 #[UV eb key, FV wh pre key' 0 text num] w (ModP B eb q h po ro w) := by
  replace H := Aside0.mk H
  replace hT := Aside0.mk hT
  replace hn := Aside0.mk hn
  unfold UV FV
  go_enter Tryz.func70, Tryz.ntmps70
  go_wp2_with fail
  have hb := below_alloc (below_alloc (Below.refl w.heap.size w) (.cells #[.pointer (some ⟨eb, 0, none⟩), .pointer (some ⟨eb, 1, none⟩), .pointer (some ⟨eb, 2, none⟩), .string key] 116)) (.cells #[.int .i64 wh, .string pre, .string key', .int .i64 0, .string text, .int .i64 num] 48)
  have hc := string_call (H.out.below hb)
  unfold UV at hc
  refine hc.mono ?_
  rintro e w' ⟨rfl, h1, h2⟩
  go_wp2
  go_ret
  exact ModP.from hb ⟨rfl, h1, h2⟩
set_option maxHeartbeats 400000 in
set_option maxRecDepth 100000 in
theorem inURI1 {B eb : Nat} {q h : Value} {p r : List Int} {key text : ByteArray} {num : Int} {po ro : List Int} {w : World} (H : Lab B eb q h p r key (boolS (num != 0)) po ro w) (hT : Pow w) (hn : -9223372036854775808 ≤ num ∧ num ≤ 9223372036854775807) (wh : Int) (pre key' : ByteArray) :
    Calls Tryz.prog 70 #[UV eb key, FV wh pre key' 1 text num] w (ModP B eb q h po ro w) := by
  replace H := Aside0.mk H
  replace hT := Aside0.mk hT
  replace hn := Aside0.mk hn
  unfold UV FV
  go_enter Tryz.func70, Tryz.ntmps70
  go_wp2_with fail
  have hb := below_alloc (below_alloc (Below.refl w.heap.size w) (.cells #[.pointer (some ⟨eb, 0, none⟩), .pointer (some ⟨eb, 1, none⟩), .pointer (some ⟨eb, 2, none⟩), .string key] 116)) (.cells #[.int .i64 wh, .string pre, .string key', .int .i64 1, .string text, .int .i64 num] 48)
  have hc := bool_call (b := num != 0) (H.out.below hb)
  unfold UV at hc
  refine hc.mono ?_
  rintro e w' ⟨rfl, h1, h2⟩
  go_wp2
  go_ret
  exact ModP.from hb ⟨rfl, h1, h2⟩
set_option maxHeartbeats 400000 in
set_option maxRecDepth 100000 in
theorem inURI2 {B eb : Nat} {q h : Value} {p r : List Int} {key text : ByteArray} {num : Int} {po ro : List Int} {w : World} (H : Lab B eb q h p r key (decS (IntKind.i8.wrap num)) po ro w) (hT : Pow w) (hn : -9223372036854775808 ≤ num ∧ num ≤ 9223372036854775807) (wh : Int) (pre key' : ByteArray) :
    Calls Tryz.prog 70 #[UV eb key, FV wh pre key' 2 text num] w (ModP B eb q h po ro w) := by
  replace H := Aside0.mk H
  replace hT := Aside0.mk hT
  replace hn := Aside0.mk hn
  unfold UV FV
  go_enter Tryz.func70, Tryz.ntmps70
  go_wp2_with fail
  have hb := below_alloc (below_alloc (Below.refl w.heap.size w) (.cells #[.pointer (some ⟨eb, 0, none⟩), .pointer (some ⟨eb, 1, none⟩), .pointer (some ⟨eb, 2, none⟩), .string key] 116)) (.cells #[.int .i64 wh, .string pre, .string key', .int .i64 2, .string text, .int .i64 num] 48)
  have hc := long101_call (H.out.below hb) (hT.out.below hb) (i8_rng num).1 (i8_rng num).2
  unfold UV at hc
  refine hc.mono ?_
  rintro e w' ⟨rfl, h1, h2⟩
  go_wp2
  go_ret
  exact ModP.from hb ⟨rfl, h1, h2⟩
set_option maxHeartbeats 400000 in
set_option maxRecDepth 100000 in
theorem inURI3 {B eb : Nat} {q h : Value} {p r : List Int} {key text : ByteArray} {num : Int} {po ro : List Int} {w : World} (H : Lab B eb q h p r key (decS (IntKind.i16.wrap num)) po ro w) (hT : Pow w) (hn : -9223372036854775808 ≤ num ∧ num ≤ 9223372036854775807) (wh : Int) (pre key' : ByteArray) :
    Calls Tryz.prog 70 #[UV eb key, FV wh pre key' 3 text num] w (ModP B eb q h po ro w) := by
  replace H := Aside0.mk H
  replace hT := Aside0.mk hT
  replace hn := Aside0.mk hn
  unfold UV FV
  go_enter Tryz.func70, Tryz.ntmps70
  go_wp2_with fail
  have hb := below_alloc (below_alloc (Below.refl w.heap.size w) (.cells #[.pointer (some ⟨eb, 0, none⟩), .pointer (some ⟨eb, 1, none⟩), .pointer (some ⟨eb, 2, none⟩), .string key] 116)) (.cells #[.int .i64 wh, .string pre, .string key', .int .i64 3, .string text, .int .i64 num] 48)
  have hc := long102_call (H.out.below hb) (hT.out.below hb) (i16_rng num).1 (i16_rng num).2
  unfold UV at hc
  refine hc.mono ?_
  rintro e w' ⟨rfl, h1, h2⟩
  go_wp2
  go_ret
  exact ModP.from hb ⟨rfl, h1, h2⟩
set_option maxHeartbeats 400000 in
set_option maxRecDepth 100000 in
theorem inURI4 {B eb : Nat} {q h : Value} {p r : List Int} {key text : ByteArray} {num : Int} {po ro : List Int} {w : World} (H : Lab B eb q h p r key (decS (wrap32 num)) po ro w) (hT : Pow w) (hn : -9223372036854775808 ≤ num ∧ num ≤ 9223372036854775807) (wh : Int) (pre key' : ByteArray) :
    Calls Tryz.prog 70 #[UV eb key, FV wh pre key' 4 text num] w (ModP B eb q h po ro w) := by
  replace H := Aside0.mk H
  replace hT := Aside0.mk hT
  replace hn := Aside0.mk hn
  unfold UV FV
  go_enter Tryz.func70, Tryz.ntmps70
  go_wp2_with fail
  have hb := below_alloc (below_alloc (Below.refl w.heap.size w) (.cells #[.pointer (some ⟨eb, 0, none⟩), .pointer (some ⟨eb, 1, none⟩), .pointer (some ⟨eb, 2, none⟩), .string key] 116)) (.cells #[.int .i64 wh, .string pre, .string key', .int .i64 4, .string text, .int .i64 num] 48)
  have hc := long103_call (H.out.below hb) (hT.out.below hb) (i32_rng num).1 (i32_rng num).2
  unfold UV at hc
  refine hc.mono ?_
  rintro e w' ⟨rfl, h1, h2⟩
  go_wp2
  go_ret
  exact ModP.from hb ⟨rfl, h1, h2⟩
set_option maxHeartbeats 400000 in
set_option maxRecDepth 100000 in
theorem inURI5 {B eb : Nat} {q h : Value} {p r : List Int} {key text : ByteArray} {num : Int} {po ro : List Int} {w : World} (H : Lab B eb q h p r key (decS num) po ro w) (hT : Pow w) (hn : -9223372036854775808 ≤ num ∧ num ≤ 9223372036854775807) (wh : Int) (pre key' : ByteArray) :
    Calls Tryz.prog 70 #[UV eb key, FV wh pre key' 5 text num] w (ModP B eb q h po ro w) := by
  replace H := Aside0.mk H
  replace hT := Aside0.mk hT
  replace hn := Aside0.mk hn
  unfold UV FV
  go_enter Tryz.func70, Tryz.ntmps70
  go_wp2_with fail
  have hb := below_alloc (below_alloc (Below.refl w.heap.size w) (.cells #[.pointer (some ⟨eb, 0, none⟩), .pointer (some ⟨eb, 1, none⟩), .pointer (some ⟨eb, 2, none⟩), .string key] 116)) (.cells #[.int .i64 wh, .string pre, .string key', .int .i64 5, .string text, .int .i64 num] 48)
  have hc := long_call (H.out.below hb) (hT.out.below hb) hn.out.1 hn.out.2
  unfold UV at hc
  refine hc.mono ?_
  rintro e w' ⟨rfl, h1, h2⟩
  go_wp2
  go_ret
  exact ModP.from hb ⟨rfl, h1, h2⟩
theorem inURI_call {B eb : Nat} {q h : Value} {p r : List Int} {key text : ByteArray} {kind num : Int} {po ro : List Int} {w : World} (H : Lab B eb q h p r key (kindS kind text num) po ro w) (hT : Pow w) (hk : 0 ≤ kind ∧ kind ≤ 5) (hn : -9223372036854775808 ≤ num ∧ num ≤ 9223372036854775807) (wh : Int) (pre key' : ByteArray) :
    Calls Tryz.prog 70 #[UV eb key, FV wh pre key' kind text num] w (ModP B eb q h po ro w) := by
  have hc : kind = 0 ∨ kind = 1 ∨ kind = 2 ∨ kind = 3 ∨ kind = 4 ∨ kind = 5 := by omega
  rcases hc with rfl | rfl | rfl | rfl | rfl | rfl
  · exact inURI0 H hT hn wh pre key'
  · exact inURI1 H hT hn wh pre key'
  · exact inURI2 H hT hn wh pre key'
  · exact inURI3 H hT hn wh pre key'
  · exact inURI4 H hT hn wh pre key'
  · exact inURI5 H hT hn wh pre key'
set_option maxHeartbeats 1000000 in
set_option maxRecDepth 100000 in
theorem put_uri {B eb : Nat} {q h : Value} {p r : List Int} {key text : ByteArray} {kind num : Int} {po ro : List Int} {w : World} (H : Lab B eb q h p r key (kindS kind text num) po ro w) (hT : Pow w) (hk : 0 ≤ kind ∧ kind ≤ 5) (hn : -9223372036854775808 ≤ num ∧ num ≤ 9223372036854775807) (pre : ByteArray) :
    Calls Tryz.prog 46 #[.pointer (some ⟨eb, 0, none⟩), FV 0 pre key kind text num] w (ModP B eb q h po ro w) := by
  have hlt := H.enc.lt.1
  replace H := Aside0.mk H
  replace hT := Aside0.mk hT
  replace hk := Aside0.mk hk
  replace hn := Aside0.mk hn
  unfold FV
  go_enter Tryz.func46, Tryz.ntmps46
  go_wp2_with fail
  have hu := heap_new w (.cells #[.int .i64 0, .string pre, .string key, .int .i64 kind, .string text, .int .i64 num] 48)
  have hb1 := below_alloc (Below.refl w.heap.size w) (.cells #[.int .i64 0, .string pre, .string key, .int .i64 kind, .string text, .int .i64 num] 48)
  generalize w.alloc (.cells #[.int .i64 0, .string pre, .string key, .int .i64 kind, .string text, .int .i64 num] 48) = w1 at *
  have hne : w.heap.size ≠ eb := by omega
  have hb1' := Aside0.mk hb1; clear hb1
  generalize hub : w.heap.size = ub at *
  have c0 := cell_at hu 0; have c1 := cell_at hu 1; have c2 := cell_at hu 2; have c3 := cell_at hu 3; have c4 := cell_at hu 4; have c5 := cell_at hu 5
  simp at c0 c1 c2 c3 c4 c5
  replace hu := Aside0.mk hu
  have hin := fun w => @inURI_call B eb q h p r key text kind num po ro w
  unfold FV at hin
  replace hin := Aside0.mk hin
  go_region_held3 (fun w' => w'.cell? ⟨ub, 0, none⟩ = some (.int .i64 0) ∧ w'.cell? ⟨ub, 1, none⟩ = some (.string pre) ∧ w'.cell? ⟨ub, 2, none⟩ = some (.string key) ∧ w'.cell? ⟨ub, 3, none⟩ = some (.int .i64 kind) ∧ w'.cell? ⟨ub, 4, none⟩ = some (.string text) ∧ w'.cell? ⟨ub, 5, none⟩ = some (.int .i64 num)) (go_keep) (first | ((go_at_call 71; refine (setURI_call eb key _).mono ?_; rintro e w2 ⟨rfl, hb⟩; have h := Fr.heap (Fr.of_below (S := fun _ => False) hb) hu.out (fun h => h); have e0 := cell_at h 0; have e1 := cell_at h 1; have e2 := cell_at h 2; have e3 := cell_at h 3; have e4 := cell_at h 4; have e5 := cell_at h 5; simp at e0 e1 e2 e3 e4 e5; replace h := Aside0.mk h; replace hb := Aside0.mk hb)) | ((go_at_call 70; refine (hin.out w2 (H.out.below (below_two (by rw [hub]; exact hb1'.out) hb.out)) (hT.out.below (below_two (by rw [hub]; exact hb1'.out) hb.out)) hk.out hn.out 0 pre key).mono ?_; rintro e w3 ⟨rfl, h1, h2⟩; have h3 := Lab.heap h2 h.out hne (by simp); have g0 := cell_at h3 0; have g1 := cell_at h3 1; have g2 := cell_at h3 2; have g3 := cell_at h3 3; have g4 := cell_at h3 4; have g5 := cell_at h3 5; simp at g0 g1 g2 g3 g4 g5)))
  go_wp2
  go_ret
  subst hub
  exact ModP.from (below_then (below_drew hb1'.out) (below_drew hb1'.out).size hb.out) ⟨rfl, h1, h2⟩
end H
end Go.Proofs.YtclmjmfcggkpaaaGreatDoor
