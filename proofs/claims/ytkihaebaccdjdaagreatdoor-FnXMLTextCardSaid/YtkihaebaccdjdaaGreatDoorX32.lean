import Derived.Test.YtkihaebaccdjdaaGreatDoorX5
import Derived.Test.YtkihaebaccdjdaaGreatDoorX29
import Derived.Test.YtkihaebaccdjdaaGreatDoorX30
import Derived.Test.YtkihaebaccdjdaaGreatDoorX31
import Derived.Test.YtkihaebaccdjdaaGreatDoorX26
import Derived.Test.YtkihaebaccdjdaaGreatDoorX28
import Derived.Test.YtkihaebaccdjdaaGreatDoorX19
import Derived.Deep.RegionHeld3
namespace Go.Proofs.YtkihaebaccdjdaaGreatDoor.PX
open Go.RowKit Go.Proofs.YtkihaebaccdjdaaGreatDoorW.PrintWords Go.Proofs.YtkihaebaccdjdaaGreatDoorW.PrintLast Go.Proofs.YtkihaebaccdjdaaGreatDoorW.PrintMore
attribute [local go_sem] max2_int min2_int max_two min_two max_three min_three max_four min_four   -- for this text's walks alone
set_option linter.unusedVariables false
set_option linter.unusedSimpArgs false

/-! ### spec_reader_escape: function 150 -/
mutual
def spec_reader_escape.j0 : Nat → Int → Int → Bool → ByteArray → Bool → Option (ByteArray × ByteArray × Bool)
 | 0, _, _, _, _, _ => none
 | k + 1, x3, x24, x25, x1000, x1001 => if x25 = true then (some (strOfNums (([x3] : List Int)), x1000, x1001)) else (if x24 = 98 then (some ((⟨#[8]⟩ : ByteArray), x1000, x1001)) else (if x24 = 102 then (some ((⟨#[12]⟩ : ByteArray), x1000, x1001)) else (if x24 = 110 then (some ((⟨#[10]⟩ : ByteArray), x1000, x1001)) else (if x24 = 114 then (some ((⟨#[13]⟩ : ByteArray), x1000, x1001)) else (if x24 = 116 then (some ((⟨#[9]⟩ : ByteArray), x1000, x1001)) else (if x24 = 117 then ((spec_reader_hex.f k x1000 x1001).bind fun bt405 => (if bt405.1 ≥ 55296 then (if bt405.1 < 56320 then ((spec_reader_take.f bt405.2.1 bt405.2.2 (⟨#[92, 117]⟩ : ByteArray)).bind fun bt408 => (spec_reader_escape.j1 k bt405.1 bt408.1 bt408.2.1 bt408.2.2)) else (spec_reader_escape.j1 k bt405.1 false bt405.2.1 bt405.2.2)) else (spec_reader_escape.j1 k bt405.1 false bt405.2.1 bt405.2.2))) else (some ((⟨#[]⟩ : ByteArray), x1000, true))))))))
def spec_reader_escape.j1 : Nat → Int → Bool → ByteArray → Bool → Option (ByteArray × ByteArray × Bool)
 | 0, _, _, _, _ => none
 | k + 1, x4, x55, x1000, x1001 => if x55 = true then ((spec_reader_hex.f k x1000 x1001).bind fun bt411 => (if bt411.1 < 56320 then (spec_reader_escape.j2 k x4 bt411.1 true bt411.2.1 bt411.2.2) else (spec_reader_escape.j2 k x4 bt411.1 (decide (bt411.1 ≥ 57344)) bt411.2.1 bt411.2.2))) else (if x4 ≥ 55296 then (if x4 < 57344 then (some ((⟨#[]⟩ : ByteArray), x1000, true)) else ((spec_utf8.f x4).bind fun t415 => (some (t415, x1000, x1001)))) else ((spec_utf8.f x4).bind fun t416 => (some (t416, x1000, x1001))))
def spec_reader_escape.j2 : Nat → Int → Int → Bool → ByteArray → Bool → Option (ByteArray × ByteArray × Bool)
 | 0, _, _, _, _, _ => none
 | k + 1, x4, x5, x63, x1000, x1001 => if x63 = true then (some ((⟨#[]⟩ : ByteArray), x1000, true)) else ((spec_utf8.f (wrap32 ((wrap32 (65536 + (wrap32 ((wrap32 (x4 - 55296)) * 1024)))) + (wrap32 (x5 - 56320))))).bind fun t414 => (some (t414, x1000, x1001)))
end
def spec_reader_escape.f (k : Nat) (s0_0 : ByteArray) (s0_1 : Bool) : Option (ByteArray × ByteArray × Bool) := (spec_reader_peek.f s0_0 s0_1).bind fun bt399 => (if bt399.2.1.toList = ([] : List UInt8) then (some ((⟨#[]⟩ : ByteArray), bt399.2.1, true)) else (if 1 ≤ (bt399.2.1.size : Int) then (if bt399.1 = 34 then (spec_reader_escape.j0 k bt399.1 bt399.1 (bt399.1 == 34) (bt399.2.1.extract 1 bt399.2.1.size) bt399.2.2) else (if bt399.1 = 92 then (spec_reader_escape.j0 k bt399.1 bt399.1 (bt399.1 == 92) (bt399.2.1.extract 1 bt399.2.1.size) bt399.2.2) else (spec_reader_escape.j0 k bt399.1 bt399.1 (bt399.1 == 47) (bt399.2.1.extract 1 bt399.2.1.size) bt399.2.2))) else (none)))
end Go.Proofs.YtkihaebaccdjdaaGreatDoor.PX
namespace Go.Proofs.YtkihaebaccdjdaaGreatDoor.PX
open Go.RowKit Go.Proofs.YtkihaebaccdjdaaGreatDoorW.PrintWords Go.Proofs.YtkihaebaccdjdaaGreatDoorW.PrintLast Go.Proofs.YtkihaebaccdjdaaGreatDoorW.PrintMore
attribute [local go_sem] max2_int min2_int max_two min_two max_three min_three max_four min_four   -- for this text's walks alone
set_option linter.unusedVariables false
set_option linter.unusedSimpArgs false

/-! ### spec_reader_text: function 84 -/
def spec_reader_text.l0 : Nat → List Int → ByteArray → Bool → Option (ByteArray × ByteArray × Bool)
 | 0, _, _, _ => none
 | k + 1, x3, x1000, x1001 => if x1001 = true then (some ((⟨#[]⟩ : ByteArray), x1000, x1001)) else ((spec_reader_peek.f x1000 x1001).bind fun bt422 => ((spec_reader_take.f bt422.2.1 bt422.2.2 (⟨#[34]⟩ : ByteArray)).bind fun bt425 => (if bt425.1 = true then (some (strOfNums x3, bt425.2.1, bt425.2.2)) else ((spec_reader_take.f bt425.2.1 bt425.2.2 (⟨#[92]⟩ : ByteArray)).bind fun bt428 => (if bt428.1 = true then ((spec_reader_escape.f k bt428.2.1 bt428.2.2).bind fun bt431 => (if x3.length + bt431.1.size < 140737488355328 then (spec_reader_text.l0 k (x3 ++ bytesOf bt431.1) bt431.2.1 bt431.2.2) else (none))) else (if bt428.2.1.toList = ([] : List UInt8) then (spec_reader_text.l0 k x3 bt428.2.1 true) else (if bt422.1 < 32 then (spec_reader_text.l0 k x3 bt428.2.1 true) else (if x3.length < 140737488355328 then (if 1 ≤ (bt428.2.1.size : Int) then (spec_reader_text.l0 k (x3 ++ [bt422.1]) (bt428.2.1.extract 1 bt428.2.1.size) bt428.2.2) else (none)) else (none)))))))))
def spec_reader_text.f (k : Nat) (s0_0 : ByteArray) (s0_1 : Bool) : Option (ByteArray × ByteArray × Bool) := (spec_reader_token.f k s0_0 s0_1 (⟨#[34]⟩ : ByteArray)).bind fun bt417 => (spec_reader_text.l0 k (([] : List Int)) bt417.1 bt417.2)
end Go.Proofs.YtkihaebaccdjdaaGreatDoor.PX
set_option linter.unusedVariables false
set_option linter.unusedSimpArgs false
namespace Go.Proofs.YtkihaebaccdjdaaGreatDoor
open Go.RowKit Go.Proofs.YtkihaebaccdjdaaGreatDoorW.PrintWords Go.Proofs.YtkihaebaccdjdaaGreatDoorW.PrintLast Go.Proofs.YtkihaebaccdjdaaGreatDoorW.PrintMore
open PX
namespace H
/-! ### What spec.reader reads of a string of JSON (plain) -/
theorem bytes_nums (l : List Int) (h : ∀ x ∈ l, 0 ≤ x ∧ x < 256) : bytesOf (strOfNums l) = l := by
 unfold bytesOf
 rw [strOfNums_data, List.map_map]
 conv => rhs; rw [← List.map_id l]
 refine List.map_congr_left (fun x hx => ?_)
 have := h x hx
 simp
 omega
theorem nums_bytes (s : ByteArray) : strOfNums (bytesOf s) = s := by
 apply ByteArray.ext
 apply Array.ext'
 rw [strOfNums_data, bytesOf, List.map_map]
 conv => rhs; rw [← List.map_id s.data.toList]
 refine List.map_congr_left (fun x _ => ?_)
 simp
theorem bytes_rng (s : ByteArray) : ∀ x ∈ bytesOf s, 0 ≤ x ∧ x < 256 := by
 intro x hx
 unfold bytesOf at hx
 obtain ⟨u, _, rfl⟩ := List.mem_map.1 hx
 have := u.toNat_lt
 omega
theorem bytes_inj {a b : ByteArray} (h : bytesOf a = bytesOf b) : a = b := by rw [← nums_bytes a, ← nums_bytes b, h]
structure Hd (s : ByteArray) (c : Int) (l : List Int) : Prop where
 ne : s.toList ≠ ([] : List UInt8)
 sz : 1 ≤ s.size
 bt : bt s 0 = c
 tl : bytesOf (s.extract 1 s.size) = l
 rng : 0 ≤ c ∧ c < 256
theorem hd_of {s : ByteArray} {c : Int} {l : List Int} (h : bytesOf s = c :: l) : Hd s c l := by
 have hsz : 1 ≤ s.size := by rw [← bytesOf_length, h]; simp
 refine ⟨fun e => ?_, hsz, ?_, ?_, bytes_rng s c (by rw [h]; simp)⟩
 ·have h1 : s.data.toList.length = 0 := by rw [show s.data.toList = s.toList from by simp [ByteArray.toList_eq]]; simp [e]
  rw [data_length] at h1; omega
 ·have := bt_getD s 0 (by omega)
  rw [h] at this
  exact this
 ·rw [bytes_tail, h]; rfl
theorem toList_eq_iff (a b : ByteArray) : a.toList = b.toList ↔ bytesOf a = bytesOf b := by
 constructor
 ·intro h
  have : a = b := by
   rw [ByteArray.toList_eq, ByteArray.toList_eq] at h
   apply ByteArray.ext
   exact Array.ext' h
  rw [this]
 ·intro h; rw [bytes_inj h]
/-- take of one byte. -/
theorem take1 {s : ByteArray} {c : Int} {l : List Int} (h : bytesOf s = c :: l) (f : Bool) (t : ByteArray) (b : Int) (hb : bytesOf t = [b]) :
 spec_reader_take.f s f t = if c = b then some (true, s.extract 1 s.size, f) else some (false, s, f) := by
 have hd := hd_of h
 have ht : t.size = 1 := by rw [← bytesOf_length, hb]; rfl
 unfold spec_reader_take.f
 have e : bytesOf (s.extract 0 t.size) = [c] := by rw [bytes_ext, h, ht]; rfl
 by_cases hc : c = b
 ·have ht2 : (s.extract 0 t.size).toList = t.toList := (toList_eq_iff _ _).2 (by rw [e, hb, hc])
  rw [if_pos ⟨by have := hd.sz; omega, ht2⟩, if_pos hc, ht]
 ·have ht2 : ¬ (s.extract 0 t.size).toList = t.toList := fun h => hc (by have := (toList_eq_iff _ _).1 h; rw [e, hb] at this; simpa using this)
  rw [if_neg (fun h => ht2 h.2), if_neg hc]
theorem utf8_f (x : Int) (h : okR x) : ∃ r, spec_utf8.f x = some r ∧ bytesOf r = utf8E x := by
 have hr := utf8E_rng x h
 obtain ⟨h0, h1, h2⟩ := h
 have mask : ∀ y : Int, 0 ≤ y → y < 2147483648 → Go.bits .and .i32 y 63 = y % 64 := fun y a b => bits_mask .i32 31 (by decide) wraps_i32 6 (by decide) y a b
 refine ⟨strOfNums (utf8E x), ?_, bytes_nums _ hr⟩
 unfold spec_utf8.f utf8E
 split
 ·congr 3; omega
 ·split
  ·rw [mask x h0 (by omega), u8_or192 _ (by omega) (by omega), u8_or128 _ (by omega) (by omega)]
   congr 3
   ·omega
   ·congr 1; omega
  ·split
   ·rw [mask x h0 (by omega), mask (x / 64) (by omega) (by omega), u8_or224 _ (by omega) (by omega), u8_or128 _ (by omega) (by omega), u8_or128 _ (by omega) (by omega)]
    congr 3
    ·omega
    ·congr 1
     ·omega
     ·congr 1; omega
   ·rw [mask x h0 (by omega), mask (x / 64) (by omega) (by omega), mask (x / 4096) (by omega) (by omega), u8_or240 _ (by omega) (by omega), u8_or128 _ (by omega) (by omega), u8_or128 _ (by omega) (by omega), u8_or128 _ (by omega) (by omega)]
    congr 3
    ·omega
    ·congr 1
     ·omega
     ·congr 1
      ·omega
      ·congr 1; omega
end H
end Go.Proofs.YtkihaebaccdjdaaGreatDoor
set_option linter.unusedVariables false
set_option linter.unusedSimpArgs false
namespace Go.Proofs.YtkihaebaccdjdaaGreatDoor
open Go.RowKit Go.Proofs.YtkihaebaccdjdaaGreatDoorW.PrintWords Go.Proofs.YtkihaebaccdjdaaGreatDoorW.PrintLast Go.Proofs.YtkihaebaccdjdaaGreatDoorW.PrintMore
open PX
namespace H
/-! ### spec.Text of a text, reader.value of a string, SaysJSON -/
set_option maxRecDepth 100000 in
theorem text0 (s : ByteArray) (num : Int) (w : World) : Calls Tryz.prog 82 #[.int .i64 0, .string s, .int .i64 num] w fun e w' => e = .returned (.string s) ∧ Below w.heap.size w w' := by
 go_enter Tryz.func82, Tryz.ntmps82
 go_wp2
 go_ret
 exact ⟨rfl, Below.refl _ _⟩
theorem drewB0 (B : Nat) (w : World) : Below B w w.drew := ⟨rfl, rfl, rfl, Nat.le_refl _, fun _ _ => rfl⟩
theorem keep_undrew {w w' : World} {g : Nat} {r : Option Nat} (h : KeepBut w.drew w' g r) : KeepBut w w' g r := h
theorem below_low {B : Nat} {w w' : World} (h : Below w.heap.size w w') {g : Nat} (hg : B ≤ g) (hg' : g < w.heap.size) : Below B w w' := ⟨h.os, h.tape, h.output, h.size, fun k hk => h.block k (by omega)⟩
end H
end Go.Proofs.YtkihaebaccdjdaaGreatDoor
set_option linter.unusedVariables false
set_option linter.unusedSimpArgs false
namespace Go.Proofs.YtkihaebaccdjdaaGreatDoor
open Go.RowKit Go.Proofs.YtkihaebaccdjdaaGreatDoorW.PrintWords Go.Proofs.YtkihaebaccdjdaaGreatDoorW.PrintLast Go.Proofs.YtkihaebaccdjdaaGreatDoorW.PrintMore
open PX
namespace H
/-! ### laws.FnJSONText -/
theorem U8.rng {p : Int → Bool} {l : List Int} (h : U8 p l) : ∀ x ∈ l, 0 ≤ x ∧ x < 256 := by
 obtain ⟨xs, h1, rfl⟩ := h
 intro y hy
 obtain ⟨x, hx, hy⟩ := List.mem_flatMap.1 hy
 exact utf8E_rng x (h1 x hx).1 y hy
theorem Fr.bel {w w' : World} (h : Fr (fun k => w.heap.size ≤ k) w w') : Below w.heap.size w w' := h.below (Nat.le_refl _) (fun _ _ h => h)
/-- What EncodeJSON makes of a text. -/
def jout (s : ByteArray) : ByteArray := strOfNums ([] ++ [34] ++ esc decL s.size (bytesOf s) ++ [34])
end H
end Go.Proofs.YtkihaebaccdjdaaGreatDoor
namespace Go.Proofs.YtkihaebaccdjdaaGreatDoor.PX
open Go.RowKit Go.Proofs.YtkihaebaccdjdaaGreatDoorW.PrintWords Go.Proofs.YtkihaebaccdjdaaGreatDoorW.PrintLast Go.Proofs.YtkihaebaccdjdaaGreatDoorW.PrintMore
attribute [local go_sem] max2_int min2_int max_two min_two max_three min_three max_four min_four   -- for this text's walks alone
set_option linter.unusedVariables false
set_option linter.unusedSimpArgs false

/-! ### smxml_NewAttribute: function 126 -/
def smxml_NewAttribute.f (a0 : ByteArray) (a1 : ByteArray) : Option (ByteArray × ByteArray × ByteArray) := some ((⟨#[]⟩ : ByteArray), a0, a1)
set_option maxHeartbeats 8000000 in
set_option maxRecDepth 100000 in
theorem smxml_NewAttribute.calls (a0 : ByteArray) (a1 : ByteArray) (r1 : ByteArray) (r2 : ByteArray) (r3 : ByteArray) (w : World) (h : smxml_NewAttribute.f a0 a1 = some (r1, r2, r3)) :
 Calls Tryz.prog 126 #[.string a0, .string a1] w fun e w' => e = .returned (.agg #[.string r1, .string r2, .string r3]) ∧ Below w.heap.size w w' := by
 have hu172 := Tryz.underlying172
 have hu102 := Tryz.underlying102
 have HB := Aside0.mk (Below.refl w.heap.size w)
 have H : (some ((⟨#[]⟩ : ByteArray), a0, a1)) = some (r1, r2, r3) := h
 clear h
 simp only [Option.some.injEq, Prod.mk.injEq] at H
 obtain ⟨rfl, rfl, rfl⟩ := H
 go_enter Tryz.func126, Tryz.ntmps126
 go_wp2_with (first | ((with_reducible refine gate_dst (N := 4) rfl ?_); refine box_event ?hg (N := 4) ?hd (cs := #[.string (⟨#[]⟩ : ByteArray), .string (⟨#[]⟩ : ByteArray), .string (⟨#[]⟩ : ByteArray)]) (t := 172) ?hr ?_; (case hd => rfl); (case hg => rfl); (case hr => first | (go_simp; done) | (go_simp; rfl)); intro gb257 hg w3 hbox hb; have n0_ := Aside0.mk (below_step (by repeat ((with_reducible exact HB.out))) hb); have n1_ := Aside0.mk (hbox); have n2_ := Aside0.mk ((by rw [hg]; exact (below_size (by repeat ((with_reducible exact HB.out)))) : w.heap.size ≤ gb257)); have n3_ := Aside0.mk ((by rw [hg]; exact (below_size (by repeat ((with_reducible exact HB.out)))) : w.heap.size ≤ gb257)); clear HB; have HB := n0_; have BK257 := n1_; have GW257 := n2_; have GE257 := n3_; clear n0_ n1_ n2_ n3_; clear hb hbox hg; have hcz4_0 : w3.cell? ⟨gb257, 0, none⟩ = some (.string (⟨#[]⟩ : ByteArray)) := (blk_cell BK257.out 0).trans rfl; have hcz4_1 : w3.cell? ⟨gb257, 1, none⟩ = some (.string (⟨#[]⟩ : ByteArray)) := (blk_cell BK257.out 1).trans rfl; have hcz4_2 : w3.cell? ⟨gb257, 2, none⟩ = some (.string (⟨#[]⟩ : ByteArray)) := (blk_cell BK257.out 2).trans rfl; have hfz4_0 := blk_frozen BK257.out 0; have hfz4_1 := blk_frozen BK257.out 1; have hfz4_2 := blk_frozen BK257.out 2))
 refine bodyPost_ret (results_cell_row rfl _ _ gb257 172 #[.string (⟨#[]⟩ : ByteArray), .string a0, .string a1] (0, 0) _ rfl (by (with_reducible repeat (fail)); refine blk_put (cs := #[.string (⟨#[]⟩ : ByteArray), .string a0, .string (⟨#[]⟩ : ByteArray)]) ?_ 2 _ rfl; (with_reducible repeat (fail)); refine blk_put (cs := #[.string (⟨#[]⟩ : ByteArray), .string (⟨#[]⟩ : ByteArray), .string (⟨#[]⟩ : ByteArray)]) ?_ 1 _ rfl; (with_reducible repeat (fail)); refine blk_put (cs := #[.string (⟨#[]⟩ : ByteArray), .string (⟨#[]⟩ : ByteArray), .string (⟨#[]⟩ : ByteArray)]) ?_ 0 _ rfl; (with_reducible repeat (fail)); exact BK257.out) Tryz.underlying172 rfl (by kernel_rfl)) rfl ?_
 exact ⟨by rfl, by repeat ((with_reducible first | exact HB.out | refine below_set ?_ GE257.out))⟩

end Go.Proofs.YtkihaebaccdjdaaGreatDoor.PX
