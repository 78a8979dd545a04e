import Derived.Test.YtkihaebaccdjdaaGreatDoorJ36
import Derived.Test.YtkihaebaccdjdaaGreatDoorJ28
set_option linter.unusedVariables false
set_option linter.unusedSimpArgs false
namespace Go.Proofs.YtkihaebaccdjdaaGreatDoor
open Go.RowKit Go.Proofs.YtkihaebaccdjdaaGreatDoorW.PrintWords Go.Proofs.YtkihaebaccdjdaaGreatDoorW.PrintLast Go.Proofs.YtkihaebaccdjdaaGreatDoorW.PrintMore
open Go.Lib (bytesWorld bytesCells bytesWorld_at_new bytesWorld_at_old bytesWorld_size)
namespace H
/-! ### impl.inJSON of the scalar kinds -/
set_option maxHeartbeats 4000000 in
set_option maxRecDepth 100000 in
theorem inj1 {dec : List Int → Int × Nat} {D : World → Prop} {B b sc : Nat} {X : Nat → Prop} {xs : List Int} (HD : DD dec D B) (hTD : ∀ w, D w → Lib.TabIs Tryz.prog w "internal/strconv.uint64pow10" .u64 Lib.pow10Tab) (t it kn vn : ByteArray) (num : Int) (hn0 : -9223372036854775808 ≤ num) (hn1 : num ≤ 9223372036854775807) (ht : t.size ≤ 20000)
    (a3 a4 a5 a9 : Option Addr) (n3 c3 n4 c4 n5 c5 n9 c9 : Nat) (w : World) (h : JS B X b sc xs w) (hD : D w) (hl : (xs ++ bytesOf (boolS (num != 0))).length + 30 ≤ 140737488355328) :
    Calls Tryz.prog 39 #[.agg #[.pointer (some ⟨b, 0, none⟩), .pointer (some ⟨sc, 0, none⟩)], .agg #[.int .i64 1, .string t, .int .i64 num, .slice a3 n3 c3, .slice a4 n4 c4, .slice a5 n5 c5, .string it, .string kn, .string vn, .slice a9 n9 c9]] w fun e w' => e = .returned (.tuple #[]) ∧ WrS B X b sc (xs ++ bytesOf (boolS (num != 0))) w w' ∧ D w' := by
  have hl2 : xs.length + 30 ≤ 140737488355328 := by rw [List.length_append] at hl; omega
  have hb := below_alloc (below_alloc (Below.refl w.heap.size w) (.cells #[.pointer (some ⟨b, 0, none⟩), .pointer (some ⟨sc, 0, none⟩)] 88)) (.cells #[.int .i64 1, .string t, .int .i64 num, .slice a3 n3 c3, .slice a4 n4 c4, .slice a5 n5 c5, .string it, .string kn, .string vn, .slice a9 n9 c9] 28)
  have hJ1 := h.calm hb
  have hD1 := HD.keep (fun _ => False) w _ hD (Fr.of_below hb)
  have hsz := hb.size
  skip
  replace hb := Aside0.mk hb; replace h := Aside0.mk h; replace hD := Aside0.mk hD; replace hJ1 := Aside0.mk hJ1; replace hD1 := Aside0.mk hD1; replace hl := Aside0.mk hl; replace hTD := Aside0.mk hTD; replace HD := Aside0.mk HD
  go_enter Tryz.func39, Tryz.ntmps39
  go_wp2_with fail
  generalize (w.alloc (.cells #[.pointer (some ⟨b, 0, none⟩), .pointer (some ⟨sc, 0, none⟩)] 88)).alloc (.cells #[.int .i64 1, .string t, .int .i64 num, .slice a3 n3 c3, .slice a4 n4 c4, .slice a5 n5 c5, .string it, .string kn, .string vn, .slice a9 n9 c9] 28) = w1 at *
  refine (js87 (num != 0) w1 hJ1.out (by omega)).mono ?_
  rintro e w2 ⟨rfl, hw⟩
  have hws := WrS.from hb.out hw (fun k hk => hk)
  have hDs := HD.out.keep X _ _ hD.out hws.2
  replace hws := Aside0.mk hws; replace hDs := Aside0.mk hDs
  go_wp2
  refine bodyPost_end (results_none rfl _ _ _) rfl ?_
  exact ⟨rfl, hws.out, hDs.out⟩
set_option maxHeartbeats 4000000 in
set_option maxRecDepth 100000 in
theorem inj2 {dec : List Int → Int × Nat} {D : World → Prop} {B b sc : Nat} {X : Nat → Prop} {xs : List Int} (HD : DD dec D B) (hTD : ∀ w, D w → Lib.TabIs Tryz.prog w "internal/strconv.uint64pow10" .u64 Lib.pow10Tab) (t it kn vn : ByteArray) (num : Int) (hn0 : -9223372036854775808 ≤ num) (hn1 : num ≤ 9223372036854775807) (ht : t.size ≤ 20000)
    (a3 a4 a5 a9 : Option Addr) (n3 c3 n4 c4 n5 c5 n9 c9 : Nat) (w : World) (h : JS B X b sc xs w) (hD : D w) (hl : (xs ++ itoaB (IntKind.i8.wrap num)).length + 30 ≤ 140737488355328) :
    Calls Tryz.prog 39 #[.agg #[.pointer (some ⟨b, 0, none⟩), .pointer (some ⟨sc, 0, none⟩)], .agg #[.int .i64 2, .string t, .int .i64 num, .slice a3 n3 c3, .slice a4 n4 c4, .slice a5 n5 c5, .string it, .string kn, .string vn, .slice a9 n9 c9]] w fun e w' => e = .returned (.tuple #[]) ∧ WrS B X b sc (xs ++ itoaB (IntKind.i8.wrap num)) w w' ∧ D w' := by
  have hl2 : xs.length + 30 ≤ 140737488355328 := by rw [List.length_append] at hl; omega
  have hb := below_alloc (below_alloc (Below.refl w.heap.size w) (.cells #[.pointer (some ⟨b, 0, none⟩), .pointer (some ⟨sc, 0, none⟩)] 88)) (.cells #[.int .i64 2, .string t, .int .i64 num, .slice a3 n3 c3, .slice a4 n4 c4, .slice a5 n5 c5, .string it, .string kn, .string vn, .slice a9 n9 c9] 28)
  have hJ1 := h.calm hb
  have hD1 := HD.keep (fun _ => False) w _ hD (Fr.of_below hb)
  have hsz := hb.size
  have r8 := i8_rng num
  replace hb := Aside0.mk hb; replace h := Aside0.mk h; replace hD := Aside0.mk hD; replace hJ1 := Aside0.mk hJ1; replace hD1 := Aside0.mk hD1; replace hl := Aside0.mk hl; replace hTD := Aside0.mk hTD; replace HD := Aside0.mk HD
  go_enter Tryz.func39, Tryz.ntmps39
  go_wp2_with fail
  generalize (w.alloc (.cells #[.pointer (some ⟨b, 0, none⟩), .pointer (some ⟨sc, 0, none⟩)] 88)).alloc (.cells #[.int .i64 2, .string t, .int .i64 num, .slice a3 n3 c3, .slice a4 n4 c4, .slice a5 n5 c5, .string it, .string kn, .string vn, .slice a9 n9 c9] 28) = w1 at *
  refine (js88 (IntKind.i8.wrap num) (by omega) (by omega) w1 hJ1.out (fun w2 hF => hTD.out w2 (HD.out.keep (fun _ => False) _ _ hD1.out (hF.mono (fun k _ h => ⟨h, fun h => h⟩)))) (by omega)).mono ?_
  rintro e w2 ⟨rfl, hw⟩
  have hws := WrS.from hb.out hw (fun k hk => hk)
  have hDs := HD.out.keep X _ _ hD.out hws.2
  replace hws := Aside0.mk hws; replace hDs := Aside0.mk hDs
  go_wp2
  refine bodyPost_end (results_none rfl _ _ _) rfl ?_
  exact ⟨rfl, hws.out, hDs.out⟩
set_option maxHeartbeats 4000000 in
set_option maxRecDepth 100000 in
theorem inj3 {dec : List Int → Int × Nat} {D : World → Prop} {B b sc : Nat} {X : Nat → Prop} {xs : List Int} (HD : DD dec D B) (hTD : ∀ w, D w → Lib.TabIs Tryz.prog w "internal/strconv.uint64pow10" .u64 Lib.pow10Tab) (t it kn vn : ByteArray) (num : Int) (hn0 : -9223372036854775808 ≤ num) (hn1 : num ≤ 9223372036854775807) (ht : t.size ≤ 20000)
    (a3 a4 a5 a9 : Option Addr) (n3 c3 n4 c4 n5 c5 n9 c9 : Nat) (w : World) (h : JS B X b sc xs w) (hD : D w) (hl : (xs ++ itoaB (IntKind.i16.wrap num)).length + 30 ≤ 140737488355328) :
    Calls Tryz.prog 39 #[.agg #[.pointer (some ⟨b, 0, none⟩), .pointer (some ⟨sc, 0, none⟩)], .agg #[.int .i64 3, .string t, .int .i64 num, .slice a3 n3 c3, .slice a4 n4 c4, .slice a5 n5 c5, .string it, .string kn, .string vn, .slice a9 n9 c9]] w fun e w' => e = .returned (.tuple #[]) ∧ WrS B X b sc (xs ++ itoaB (IntKind.i16.wrap num)) w w' ∧ D w' := by
  have hl2 : xs.length + 30 ≤ 140737488355328 := by rw [List.length_append] at hl; omega
  have hb := below_alloc (below_alloc (Below.refl w.heap.size w) (.cells #[.pointer (some ⟨b, 0, none⟩), .pointer (some ⟨sc, 0, none⟩)] 88)) (.cells #[.int .i64 3, .string t, .int .i64 num, .slice a3 n3 c3, .slice a4 n4 c4, .slice a5 n5 c5, .string it, .string kn, .string vn, .slice a9 n9 c9] 28)
  have hJ1 := h.calm hb
  have hD1 := HD.keep (fun _ => False) w _ hD (Fr.of_below hb)
  have hsz := hb.size
  have r16 := i16_rng num
  replace hb := Aside0.mk hb; replace h := Aside0.mk h; replace hD := Aside0.mk hD; replace hJ1 := Aside0.mk hJ1; replace hD1 := Aside0.mk hD1; replace hl := Aside0.mk hl; replace hTD := Aside0.mk hTD; replace HD := Aside0.mk HD
  go_enter Tryz.func39, Tryz.ntmps39
  go_wp2_with fail
  generalize (w.alloc (.cells #[.pointer (some ⟨b, 0, none⟩), .pointer (some ⟨sc, 0, none⟩)] 88)).alloc (.cells #[.int .i64 3, .string t, .int .i64 num, .slice a3 n3 c3, .slice a4 n4 c4, .slice a5 n5 c5, .string it, .string kn, .string vn, .slice a9 n9 c9] 28) = w1 at *
  refine (js89 (IntKind.i16.wrap num) (by omega) (by omega) w1 hJ1.out (fun w2 hF => hTD.out w2 (HD.out.keep (fun _ => False) _ _ hD1.out (hF.mono (fun k _ h => ⟨h, fun h => h⟩)))) (by omega)).mono ?_
  rintro e w2 ⟨rfl, hw⟩
  have hws := WrS.from hb.out hw (fun k hk => hk)
  have hDs := HD.out.keep X _ _ hD.out hws.2
  replace hws := Aside0.mk hws; replace hDs := Aside0.mk hDs
  go_wp2
  refine bodyPost_end (results_none rfl _ _ _) rfl ?_
  exact ⟨rfl, hws.out, hDs.out⟩
set_option maxHeartbeats 4000000 in
set_option maxRecDepth 100000 in
theorem inj4 {dec : List Int → Int × Nat} {D : World → Prop} {B b sc : Nat} {X : Nat → Prop} {xs : List Int} (HD : DD dec D B) (hTD : ∀ w, D w → Lib.TabIs Tryz.prog w "internal/strconv.uint64pow10" .u64 Lib.pow10Tab) (t it kn vn : ByteArray) (num : Int) (hn0 : -9223372036854775808 ≤ num) (hn1 : num ≤ 9223372036854775807) (ht : t.size ≤ 20000)
    (a3 a4 a5 a9 : Option Addr) (n3 c3 n4 c4 n5 c5 n9 c9 : Nat) (w : World) (h : JS B X b sc xs w) (hD : D w) (hl : (xs ++ itoaB (wrap32 num)).length + 30 ≤ 140737488355328) :
    Calls Tryz.prog 39 #[.agg #[.pointer (some ⟨b, 0, none⟩), .pointer (some ⟨sc, 0, none⟩)], .agg #[.int .i64 4, .string t, .int .i64 num, .slice a3 n3 c3, .slice a4 n4 c4, .slice a5 n5 c5, .string it, .string kn, .string vn, .slice a9 n9 c9]] w fun e w' => e = .returned (.tuple #[]) ∧ WrS B X b sc (xs ++ itoaB (wrap32 num)) w w' ∧ D w' := by
  have hl2 : xs.length + 30 ≤ 140737488355328 := by rw [List.length_append] at hl; omega
  have hb := below_alloc (below_alloc (Below.refl w.heap.size w) (.cells #[.pointer (some ⟨b, 0, none⟩), .pointer (some ⟨sc, 0, none⟩)] 88)) (.cells #[.int .i64 4, .string t, .int .i64 num, .slice a3 n3 c3, .slice a4 n4 c4, .slice a5 n5 c5, .string it, .string kn, .string vn, .slice a9 n9 c9] 28)
  have hJ1 := h.calm hb
  have hD1 := HD.keep (fun _ => False) w _ hD (Fr.of_below hb)
  have hsz := hb.size
  have r32 := i32_rng num
  replace hb := Aside0.mk hb; replace h := Aside0.mk h; replace hD := Aside0.mk hD; replace hJ1 := Aside0.mk hJ1; replace hD1 := Aside0.mk hD1; replace hl := Aside0.mk hl; replace hTD := Aside0.mk hTD; replace HD := Aside0.mk HD
  go_enter Tryz.func39, Tryz.ntmps39
  go_wp2_with fail
  generalize (w.alloc (.cells #[.pointer (some ⟨b, 0, none⟩), .pointer (some ⟨sc, 0, none⟩)] 88)).alloc (.cells #[.int .i64 4, .string t, .int .i64 num, .slice a3 n3 c3, .slice a4 n4 c4, .slice a5 n5 c5, .string it, .string kn, .string vn, .slice a9 n9 c9] 28) = w1 at *
  refine (js90 (wrap32 num) (by omega) (by omega) w1 hJ1.out (fun w2 hF => hTD.out w2 (HD.out.keep (fun _ => False) _ _ hD1.out (hF.mono (fun k _ h => ⟨h, fun h => h⟩)))) (by omega)).mono ?_
  rintro e w2 ⟨rfl, hw⟩
  have hws := WrS.from hb.out hw (fun k hk => hk)
  have hDs := HD.out.keep X _ _ hD.out hws.2
  replace hws := Aside0.mk hws; replace hDs := Aside0.mk hDs
  go_wp2
  refine bodyPost_end (results_none rfl _ _ _) rfl ?_
  exact ⟨rfl, hws.out, hDs.out⟩
set_option maxHeartbeats 4000000 in
set_option maxRecDepth 100000 in
theorem inj5 {dec : List Int → Int × Nat} {D : World → Prop} {B b sc : Nat} {X : Nat → Prop} {xs : List Int} (HD : DD dec D B) (hTD : ∀ w, D w → Lib.TabIs Tryz.prog w "internal/strconv.uint64pow10" .u64 Lib.pow10Tab) (t it kn vn : ByteArray) (num : Int) (hn0 : -9223372036854775808 ≤ num) (hn1 : num ≤ 9223372036854775807) (ht : t.size ≤ 20000)
    (a3 a4 a5 a9 : Option Addr) (n3 c3 n4 c4 n5 c5 n9 c9 : Nat) (w : World) (h : JS B X b sc xs w) (hD : D w) (hl : (xs ++ itoaB num).length + 30 ≤ 140737488355328) :
    Calls Tryz.prog 39 #[.agg #[.pointer (some ⟨b, 0, none⟩), .pointer (some ⟨sc, 0, none⟩)], .agg #[.int .i64 5, .string t, .int .i64 num, .slice a3 n3 c3, .slice a4 n4 c4, .slice a5 n5 c5, .string it, .string kn, .string vn, .slice a9 n9 c9]] w fun e w' => e = .returned (.tuple #[]) ∧ WrS B X b sc (xs ++ itoaB num) w w' ∧ D w' := by
  have hl2 : xs.length + 30 ≤ 140737488355328 := by rw [List.length_append] at hl; omega
  have hb := below_alloc (below_alloc (Below.refl w.heap.size w) (.cells #[.pointer (some ⟨b, 0, none⟩), .pointer (some ⟨sc, 0, none⟩)] 88)) (.cells #[.int .i64 5, .string t, .int .i64 num, .slice a3 n3 c3, .slice a4 n4 c4, .slice a5 n5 c5, .string it, .string kn, .string vn, .slice a9 n9 c9] 28)
  have hJ1 := h.calm hb
  have hD1 := HD.keep (fun _ => False) w _ hD (Fr.of_below hb)
  have hsz := hb.size
  skip
  replace hb := Aside0.mk hb; replace h := Aside0.mk h; replace hD := Aside0.mk hD; replace hJ1 := Aside0.mk hJ1; replace hD1 := Aside0.mk hD1; replace hl := Aside0.mk hl; replace hTD := Aside0.mk hTD; replace HD := Aside0.mk HD
  go_enter Tryz.func39, Tryz.ntmps39
  go_wp2_with fail
  generalize (w.alloc (.cells #[.pointer (some ⟨b, 0, none⟩), .pointer (some ⟨sc, 0, none⟩)] 88)).alloc (.cells #[.int .i64 5, .string t, .int .i64 num, .slice a3 n3 c3, .slice a4 n4 c4, .slice a5 n5 c5, .string it, .string kn, .string vn, .slice a9 n9 c9] 28) = w1 at *
  refine (js91 num hn0 hn1 w1 hJ1.out (fun w2 hF => hTD.out w2 (HD.out.keep (fun _ => False) _ _ hD1.out (hF.mono (fun k _ h => ⟨h, fun h => h⟩)))) (by omega)).mono ?_
  rintro e w2 ⟨rfl, hw⟩
  have hws := WrS.from hb.out hw (fun k hk => hk)
  have hDs := HD.out.keep X _ _ hD.out hws.2
  replace hws := Aside0.mk hws; replace hDs := Aside0.mk hDs
  go_wp2
  refine bodyPost_end (results_none rfl _ _ _) rfl ?_
  exact ⟨rfl, hws.out, hDs.out⟩
set_option maxHeartbeats 4000000 in
set_option maxRecDepth 100000 in
theorem inj11 {dec : List Int → Int × Nat} {D : World → Prop} {B b sc : Nat} {X : Nat → Prop} {xs : List Int} (HD : DD dec D B) (hTD : ∀ w, D w → Lib.TabIs Tryz.prog w "internal/strconv.uint64pow10" .u64 Lib.pow10Tab) (t it kn vn : ByteArray) (num : Int) (hn0 : -9223372036854775808 ≤ num) (hn1 : num ≤ 9223372036854775807) (ht : t.size ≤ 20000) (u : Nat) (hu : IntKind.u64.wrap num = (u : Int)) (hu64 : u < 18446744073709551616)
    (a3 a4 a5 a9 : Option Addr) (n3 c3 n4 c4 n5 c5 n9 c9 : Nat) (w : World) (h : JS B X b sc xs w) (hD : D w) (hl : (xs ++ bytesOf ⟨(Lib.decDigits u).toArray⟩).length + 30 ≤ 140737488355328) :
    Calls Tryz.prog 39 #[.agg #[.pointer (some ⟨b, 0, none⟩), .pointer (some ⟨sc, 0, none⟩)], .agg #[.int .i64 11, .string t, .int .i64 num, .slice a3 n3 c3, .slice a4 n4 c4, .slice a5 n5 c5, .string it, .string kn, .string vn, .slice a9 n9 c9]] w fun e w' => e = .returned (.tuple #[]) ∧ WrS B X b sc (xs ++ bytesOf ⟨(Lib.decDigits u).toArray⟩) w w' ∧ D w' := by
  have hl2 : xs.length + 30 ≤ 140737488355328 := by rw [List.length_append] at hl; omega
  have hb := below_alloc (below_alloc (Below.refl w.heap.size w) (.cells #[.pointer (some ⟨b, 0, none⟩), .pointer (some ⟨sc, 0, none⟩)] 88)) (.cells #[.int .i64 11, .string t, .int .i64 num, .slice a3 n3 c3, .slice a4 n4 c4, .slice a5 n5 c5, .string it, .string kn, .string vn, .slice a9 n9 c9] 28)
  have hJ1 := h.calm hb
  have hD1 := HD.keep (fun _ => False) w _ hD (Fr.of_below hb)
  have hsz := hb.size
  skip
  replace hb := Aside0.mk hb; replace h := Aside0.mk h; replace hD := Aside0.mk hD; replace hJ1 := Aside0.mk hJ1; replace hD1 := Aside0.mk hD1; replace hl := Aside0.mk hl; replace hTD := Aside0.mk hTD; replace HD := Aside0.mk HD
  go_enter Tryz.func39, Tryz.ntmps39
  go_wp2_with fail
  generalize (w.alloc (.cells #[.pointer (some ⟨b, 0, none⟩), .pointer (some ⟨sc, 0, none⟩)] 88)).alloc (.cells #[.int .i64 11, .string t, .int .i64 num, .slice a3 n3 c3, .slice a4 n4 c4, .slice a5 n5 c5, .string it, .string kn, .string vn, .slice a9 n9 c9] 28) = w1 at *
  refine (js92 u hu64 w1 hJ1.out (fun w2 hF => hTD.out w2 (HD.out.keep (fun _ => False) _ _ hD1.out (hF.mono (fun k _ h => ⟨h, fun h => h⟩)))) (by omega)).mono ?_
  rintro e w2 ⟨rfl, hw⟩
  have hws := WrS.from hb.out hw (fun k hk => hk)
  have hDs := HD.out.keep X _ _ hD.out hws.2
  replace hws := Aside0.mk hws; replace hDs := Aside0.mk hDs
  go_wp2
  refine bodyPost_end (results_none rfl _ _ _) rfl ?_
  exact ⟨rfl, hws.out, hDs.out⟩
set_option maxHeartbeats 4000000 in
set_option maxRecDepth 100000 in
theorem inj10 {dec : List Int → Int × Nat} {D : World → Prop} {B b sc : Nat} {X : Nat → Prop} {xs : List Int} (HD : DD dec D B) (hTD : ∀ w, D w → Lib.TabIs Tryz.prog w "internal/strconv.uint64pow10" .u64 Lib.pow10Tab) (t it kn vn : ByteArray) (num : Int) (hn0 : -9223372036854775808 ≤ num) (hn1 : num ≤ 9223372036854775807) (ht : t.size ≤ 20000)
    (a3 a4 a5 a9 : Option Addr) (n3 c3 n4 c4 n5 c5 n9 c9 : Nat) (w : World) (h : JS B X b sc xs w) (hD : D w) (hl : (xs ++ bytesOf ⟨#[110, 117, 108, 108]⟩).length + 30 ≤ 140737488355328) :
    Calls Tryz.prog 39 #[.agg #[.pointer (some ⟨b, 0, none⟩), .pointer (some ⟨sc, 0, none⟩)], .agg #[.int .i64 10, .string t, .int .i64 num, .slice a3 n3 c3, .slice a4 n4 c4, .slice a5 n5 c5, .string it, .string kn, .string vn, .slice a9 n9 c9]] w fun e w' => e = .returned (.tuple #[]) ∧ WrS B X b sc (xs ++ bytesOf ⟨#[110, 117, 108, 108]⟩) w w' ∧ D w' := by
  have hl2 : xs.length + 30 ≤ 140737488355328 := by rw [List.length_append] at hl; omega
  have hb := below_alloc (below_alloc (Below.refl w.heap.size w) (.cells #[.pointer (some ⟨b, 0, none⟩), .pointer (some ⟨sc, 0, none⟩)] 88)) (.cells #[.int .i64 10, .string t, .int .i64 num, .slice a3 n3 c3, .slice a4 n4 c4, .slice a5 n5 c5, .string it, .string kn, .string vn, .slice a9 n9 c9] 28)
  have hJ1 := h.calm hb
  have hD1 := HD.keep (fun _ => False) w _ hD (Fr.of_below hb)
  have hsz := hb.size
  skip
  replace hb := Aside0.mk hb; replace h := Aside0.mk h; replace hD := Aside0.mk hD; replace hJ1 := Aside0.mk hJ1; replace hD1 := Aside0.mk hD1; replace hl := Aside0.mk hl; replace hTD := Aside0.mk hTD; replace HD := Aside0.mk HD
  go_enter Tryz.func39, Tryz.ntmps39
  go_wp2_with fail
  generalize (w.alloc (.cells #[.pointer (some ⟨b, 0, none⟩), .pointer (some ⟨sc, 0, none⟩)] 88)).alloc (.cells #[.int .i64 10, .string t, .int .i64 num, .slice a3 n3 c3, .slice a4 n4 c4, .slice a5 n5 c5, .string it, .string kn, .string vn, .slice a9 n9 c9] 28) = w1 at *
  obtain ⟨v, zs, h1, h2, h3, hJ⟩ := hJ1.out.out
  refine (jnull w1 hJ (by omega)).mono ?_
  rintro e w2 ⟨rfl, hw⟩
  have hws := WrS.from hb.out (hJ1.out.wrote h1 h2 h3 hw) (fun k hk => hk)
  have hDs := HD.out.keep X _ _ hD.out hws.2
  replace hws := Aside0.mk hws; replace hDs := Aside0.mk hDs
  go_wp2
  refine bodyPost_end (results_none rfl _ _ _) rfl ?_
  exact ⟨rfl, hws.out, hDs.out⟩
set_option maxHeartbeats 4000000 in
set_option maxRecDepth 100000 in
theorem inj0 {dec : List Int → Int × Nat} {D : World → Prop} {B b sc : Nat} {X : Nat → Prop} {xs : List Int} (HD : DD dec D B) (hTD : ∀ w, D w → Lib.TabIs Tryz.prog w "internal/strconv.uint64pow10" .u64 Lib.pow10Tab) (t it kn vn : ByteArray) (num : Int) (hn0 : -9223372036854775808 ≤ num) (hn1 : num ≤ 9223372036854775807) (ht : t.size ≤ 20000)
    (a3 a4 a5 a9 : Option Addr) (n3 c3 n4 c4 n5 c5 n9 c9 : Nat) (w : World) (h : JS B X b sc xs w) (hD : D w) (hl : (xs ++ ([34] ++ esc dec t.size (bytesOf t) ++ [34])).length + 30 ≤ 140737488355328) :
    Calls Tryz.prog 39 #[.agg #[.pointer (some ⟨b, 0, none⟩), .pointer (some ⟨sc, 0, none⟩)], .agg #[.int .i64 0, .string t, .int .i64 num, .slice a3 n3 c3, .slice a4 n4 c4, .slice a5 n5 c5, .string it, .string kn, .string vn, .slice a9 n9 c9]] w fun e w' => e = .returned (.tuple #[]) ∧ WrS B X b sc (xs ++ ([34] ++ esc dec t.size (bytesOf t) ++ [34])) w w' ∧ D w' := by
  have hl2 : xs.length + 30 ≤ 140737488355328 := by rw [List.length_append] at hl; omega
  have hb := below_alloc (below_alloc (Below.refl w.heap.size w) (.cells #[.pointer (some ⟨b, 0, none⟩), .pointer (some ⟨sc, 0, none⟩)] 88)) (.cells #[.int .i64 0, .string t, .int .i64 num, .slice a3 n3 c3, .slice a4 n4 c4, .slice a5 n5 c5, .string it, .string kn, .string vn, .slice a9 n9 c9] 28)
  have hJ1 := h.calm hb
  have hD1 := HD.keep (fun _ => False) w _ hD (Fr.of_below hb)
  have hsz := hb.size
  skip
  replace hb := Aside0.mk hb; replace h := Aside0.mk h; replace hD := Aside0.mk hD; replace hJ1 := Aside0.mk hJ1; replace hD1 := Aside0.mk hD1; replace hl := Aside0.mk hl; replace hTD := Aside0.mk hTD; replace HD := Aside0.mk HD
  go_enter Tryz.func39, Tryz.ntmps39
  go_wp2_with fail
  generalize (w.alloc (.cells #[.pointer (some ⟨b, 0, none⟩), .pointer (some ⟨sc, 0, none⟩)] 88)).alloc (.cells #[.int .i64 0, .string t, .int .i64 num, .slice a3 n3 c3, .slice a4 n4 c4, .slice a5 n5 c5, .string it, .string kn, .string vn, .slice a9 n9 c9] 28) = w1 at *
  obtain ⟨v, zs, h1, h2, h3, hJ⟩ := hJ1.out.out
  refine (jstring HD.out t w1 hJ hD1.out (by omega) (by have := hl.out; simp at this ⊢; omega)).mono ?_
  rintro e w2 ⟨rfl, hw, _⟩
  rw [List.append_assoc, List.append_assoc, ← List.append_assoc [34]] at hw
  have hws := WrS.from hb.out (hJ1.out.wrote h1 h2 h3 hw) (fun k hk => hk)
  have hDs := HD.out.keep X _ _ hD.out hws.2
  replace hws := Aside0.mk hws; replace hDs := Aside0.mk hDs
  go_wp2
  refine bodyPost_end (results_none rfl _ _ _) rfl ?_
  exact ⟨rfl, hws.out, hDs.out⟩
set_option maxHeartbeats 4000000 in
set_option maxRecDepth 100000 in
theorem inj6 {dec : List Int → Int × Nat} {D : World → Prop} {B b sc : Nat} {X : Nat → Prop} {xs : List Int} (HD : DD dec D B) (t it kn vn : ByteArray) (num : Int) (ht : t.size ≤ 20000)
    (a3 a4 a5 a9 : Option Addr) (n3 c3 n4 c4 n5 c5 n9 c9 : Nat) (w : World) (h : JS B X b sc xs w) (hD : D w) (hl : (xs ++ ([34] ++ bytesOf (b64 t) ++ [34])).length + 30 ≤ 140737488355328) :
    Calls Tryz.prog 39 #[.agg #[.pointer (some ⟨b, 0, none⟩), .pointer (some ⟨sc, 0, none⟩)], .agg #[.int .i64 6, .string t, .int .i64 num, .slice a3 n3 c3, .slice a4 n4 c4, .slice a5 n5 c5, .string it, .string kn, .string vn, .slice a9 n9 c9]] w fun e w' => e = .returned (.tuple #[]) ∧ WrS B X b sc (xs ++ ([34] ++ bytesOf (b64 t) ++ [34])) w w' ∧ D w' := by
  have hcv := fun (w : World) (s : ByteArray) => Lib.run_convert_string_bytes (P := Tryz.prog) w 9 22 5 s (u := .string) Tryz.underlying9 Tryz.underlying22 Tryz.underlying5
  have hb := below_alloc (below_alloc (Below.refl w.heap.size w) (.cells #[.pointer (some ⟨b, 0, none⟩), .pointer (some ⟨sc, 0, none⟩)] 88)) (.cells #[.int .i64 6, .string t, .int .i64 num, .slice a3 n3 c3, .slice a4 n4 c4, .slice a5 n5 c5, .string it, .string kn, .string vn, .slice a9 n9 c9] 28)
  have hB := h.leB
  have hsz1 : ((w.alloc (.cells #[.pointer (some ⟨b, 0, none⟩), .pointer (some ⟨sc, 0, none⟩)] 88)).alloc (.cells #[.int .i64 6, .string t, .int .i64 num, .slice a3 n3 c3, .slice a4 n4 c4, .slice a5 n5 c5, .string it, .string kn, .string vn, .slice a9 n9 c9] 28)).heap.size = w.heap.size + 1 + 1 := by simp
  replace h := Aside0.mk h; replace hD := Aside0.mk hD; replace hl := Aside0.mk hl
  go_enter Tryz.func39, Tryz.ntmps39
  go_wp2_with fail
  generalize (w.alloc (.cells #[.pointer (some ⟨b, 0, none⟩), .pointer (some ⟨sc, 0, none⟩)] 88)).alloc (.cells #[.int .i64 6, .string t, .int .i64 num, .slice a3 n3 c3, .slice a4 n4 c4, .slice a5 n5 c5, .string it, .string kn, .string vn, .slice a9 n9 c9] 28) = w1 at *
  have hb1 := bytesWorld_below w1 t
  have ha1 := BAt.of_string w1 t
  rw [← strZs_length w1 t]
  have ht1 := strZs_take w1 t
  have hc1 : (strZs w1 t).length ≤ 9223372036854775807 := by rw [strZs_length]; have := grownCap_le_maxLen w1 t.size 0 5 (by unfold maxLen; omega); unfold maxLen at this; omega
  have hb2 := Aside0.mk (below_then hb hb.size hb1)
  have hgl := ha1.lt
  generalize strZs w1 t = z1 at *
  have hsz := hb.size
  obtain ⟨g, hg⟩ : ∃ g, w.heap.size + 1 + 1 = g := ⟨_, rfl⟩
  rw [hsz1, hg] at ha1 hgl
  rw [hg]
  generalize Lib.bytesWorld w1 5 t = w2 at *
  have hJ2 := h.out.re (X' := fun k => X k ∨ k = g) (fun k hk => hk.imp id (fun e => by omega)) (fun k hk => by rcases hk with e | e; have := h.out.low k e; have := hb2.out.size; omega; omega) hb2.out
  refine (js94 (g := g) t w2 hJ2 (.inr rfl) ha1 ht1 hc1 (by omega) (by have := hl.out; simp at this ⊢; omega)).mono ?_
  rintro e w3 ⟨rfl, hw⟩
  rw [List.append_assoc, List.append_assoc, ← List.append_assoc [34]] at hw
  have hws := Aside0.mk (WrS.from hb2.out hw (fun k hk => .inl hk))
  go_wp2
  refine bodyPost_end (results_none rfl _ _ _) rfl ?_
  exact ⟨rfl, hws.out, HD.keep X _ _ hD.out hws.out.2⟩
end H
end Go.Proofs.YtkihaebaccdjdaaGreatDoor
