import Derived.Test.YtkihaebaccdjdaaGreatDoorX5
import Derived.Test.YtkihaebaccdjdaaGreatDoorX32
import Derived.Test.YtkihaebaccdjdaaGreatDoorX33
namespace Go.Proofs.YtkihaebaccdjdaaGreatDoor.PX
open Go.RowKit Go.Proofs.YtkihaebaccdjdaaGreatDoorW.PrintWords Go.Proofs.YtkihaebaccdjdaaGreatDoorW.PrintLast Go.Proofs.YtkihaebaccdjdaaGreatDoorW.PrintMore
attribute [local go_sem] max2_int min2_int max_two min_two max_three min_three max_four min_four   -- for this text's walks alone
set_option linter.unusedVariables false
set_option linter.unusedSimpArgs false

/-! ### impl_element: function 46 -/
def impl_element.l0 : Nat → List (S45) → Int → Int → ByteArray → ByteArray → List (S172) → Option (ByteArray × ByteArray × (List (S172)))
 | 0, _, _, _, _, _, _ => none
 | k + 1, x12, x13, x14, x266000, x266001, x266002 => if x14 < x13 then (if 0 ≤ x14 then (if x14 < (x12.length : Int) then (if (rd_T45 x12 x14).f2 = true then ((smxml_NewNamespaceAttribute.f ((rd_T45 x12 x14).f0) ((rd_T45 x12 x14).f1)).bind fun bt268 => (if x266002.length < 2932031007402 then (impl_element.l0 k x12 x13 (wrap64 (x14 + 1)) x266000 x266001 (x266002 ++ [(⟨(⟨bt268.1, bt268.2.1⟩ : S102), bt268.2.2⟩ : S172)])) else (none))) else ((smxml_NewAttribute.f ((rd_T45 x12 x14).f0) ((rd_T45 x12 x14).f1)).bind fun bt274 => (if x266002.length < 2932031007402 then (impl_element.l0 k x12 x13 (wrap64 (x14 + 1)) x266000 x266001 (x266002 ++ [(⟨(⟨bt274.1, bt274.2.1⟩ : S102), bt274.2.2⟩ : S172)])) else (none)))) else (none)) else (none)) else (some (x266000, x266001, x266002))
def impl_element.f (k : Nat) (a0 : ByteArray) (a1_0 : Int) (a1_1 : ByteArray) (a1_2 : Int) (l1_3 : List ByteArray) (l1_4 : List (S28)) (l1_5 : List Bool) (a1_6 : ByteArray) (a1_7 : ByteArray) (a1_8 : ByteArray) (l1_9 : List (S45)) : Option (ByteArray × ByteArray × (List (S172))) := impl_element.l0 k l1_9 (l1_9.length : Int) 0 (⟨#[]⟩ : ByteArray) a0 ([] : List (S172))
def impl_element.T6 : Bool × List (List Nat × List Nat) := (true, [([], []), ([0], [0]), ([], []), ([2], [2]), ([], []), ([4], [4]), ([3, 5], [3, 5]), ([6], [6]), ([1, 7, 6], [1, 7]), ([0, 1, 2, 3, 4, 5, 6, 7, 8], []), ([9, 8, 8, 0, 1, 2, 3, 4, 5, 6, 7, 8], [8, 9])])
def impl_element.B6 : List Nat := [0, 1, 0, 4, 0, 16, 60, 124, 255, 511, 1023]
theorem impl_element.tab6 : rtab .any (opsOf Tryz.f46 6) = impl_element.T6 := by kernel_rfl
theorem impl_element.bits6 : waitsOk impl_element.T6.2 impl_element.B6 = true := by kernel_rfl
def impl_element.T7 : Bool × List (List Nat × List Nat) := (true, [([], []), ([0], [0]), ([], []), ([2], [2]), ([], []), ([4], [4]), ([3, 5], [3, 5]), ([6], [6]), ([1, 7, 6], [1, 7]), ([0, 1, 2, 3, 4, 5, 6, 7, 8], []), ([9, 8, 8, 0, 1, 2, 3, 4, 5, 6, 7, 8], [8, 9])])
def impl_element.B7 : List Nat := [0, 1, 0, 4, 0, 16, 60, 124, 255, 511, 1023]
theorem impl_element.tab7 : rtab .any (opsOf Tryz.f46 7) = impl_element.T7 := by kernel_rfl
theorem impl_element.bits7 : waitsOk impl_element.T7.2 impl_element.B7 = true := by kernel_rfl
set_option maxHeartbeats 8000000 in
set_option maxRecDepth 100000 in
theorem impl_element.calls (k : Nat) (a0 : ByteArray) (a1_0 : Int) (a1_1 : ByteArray) (a1_2 : Int) (A1_3 : Option Addr) (c1_3 : Nat) (l1_3 : List ByteArray) (A1_4 : Option Addr) (c1_4 : Nat) (l1_4 : List (S28)) (A1_5 : Option Addr) (c1_5 : Nat) (l1_5 : List Bool) (a1_6 : ByteArray) (a1_7 : ByteArray) (a1_8 : ByteArray) (A1_9 : Option Addr) (c1_9 : Nat) (l1_9 : List (S45)) (r1 : ByteArray) (r2 : ByteArray) (r3 : List (S172)) (w : World) (hr1_3 : Kd.C Kd.string w A1_3 l1_3.length l1_3) (hc1_3 : l1_3.length ≤ c1_3) (hr1_4 : Kd.C k28 w A1_4 l1_4.length l1_4) (hc1_4 : l1_4.length ≤ c1_4) (hr1_5 : Kd.C Kd.bool w A1_5 l1_5.length l1_5) (hc1_5 : l1_5.length ≤ c1_5) (hr1_9 : Kd.C k45 w A1_9 l1_9.length l1_9) (hc1_9 : l1_9.length ≤ c1_9) (h : impl_element.f k a0 a1_0 a1_1 a1_2 l1_3 l1_4 l1_5 a1_6 a1_7 a1_8 l1_9 = some (r1, r2, r3)) :
 Calls Tryz.prog 46 #[.string a0, .agg #[.int .i64 a1_0, .string a1_1, .int .i64 a1_2, .slice A1_3 l1_3.length c1_3, .slice A1_4 l1_4.length c1_4, .slice A1_5 l1_5.length c1_5, .string a1_6, .string a1_7, .string a1_8, .slice A1_9 l1_9.length c1_9]] w fun e w' => ∃ v2_ : Value, e = .returned (.agg #[.string r1, .string r2, v2_]) ∧ Kd.R k172 172 w' w.heap.size (fun _ => True) v2_ r3 ∧ Below w.heap.size w w' := by
 have hu28 := Tryz.underlying28
 have hu105 := Tryz.underlying105
 have hu102 := Tryz.underlying102
 have hu45 := Tryz.underlying45
 have HR1_3 := Aside0.mk hr1_3
 have HC1_3 := Aside0.mk hc1_3
 clear hr1_3 hc1_3
 have HR1_4 := Aside0.mk hr1_4
 have HC1_4 := Aside0.mk hc1_4
 clear hr1_4 hc1_4
 have HR1_5 := Aside0.mk hr1_5
 have HC1_5 := Aside0.mk hc1_5
 clear hr1_5 hc1_5
 have HR1_9 := Aside0.mk hr1_9
 have HC1_9 := Aside0.mk hc1_9
 clear hr1_9 hc1_9
 have HB := Aside0.mk (Below.refl w.heap.size w)
 have H : (impl_element.l0 k l1_9 (l1_9.length : Int) 0 (⟨#[]⟩ : ByteArray) a0 ([] : List (S172))) = some (r1, r2, r3) := h
 clear h
 have H' := Aside0.mk H
 clear H
 go_enter Tryz.func46, Tryz.ntmps46
 go_wp2_with (first | ((with_reducible refine gate_dst (N := 3) rfl ?_); refine box_event ?hg (N := 3) ?hd (cs := #[.int .i64 a1_0, .string a1_1, .int .i64 a1_2, .slice A1_3 l1_3.length c1_3, .slice A1_4 l1_4.length c1_4, .slice A1_5 l1_5.length c1_5, .string a1_6, .string a1_7, .string a1_8, .slice A1_9 l1_9.length c1_9]) (t := 28) ?hr ?_; (case hd => rfl); (case hg => rfl); (case hr => first | (go_simp; done) | (go_simp; rfl)); intro gb263 hg w3 hbox hb; have n0_ := Aside0.mk (below_step (by repeat ((with_reducible exact HB.out))) hb); have n1_ := Aside0.mk (hbox); have n2_ := Aside0.mk ((by rw [hg]; exact (below_size (by repeat ((with_reducible exact HB.out)))) : w.heap.size ≤ gb263)); have n3_ := Aside0.mk ((by rw [hg]; exact (below_size (by repeat ((with_reducible exact HB.out)))) : w.heap.size ≤ gb263)); clear HB; have HB := n0_; have BK263 := n1_; have GW263 := n2_; have GE263 := n3_; clear n0_ n1_ n2_ n3_; clear hb hbox hg) | ((with_reducible refine gate_dst (N := 4) rfl ?_); refine box_event ?hg (N := 4) ?hd (cs := #[.string (⟨#[]⟩ : ByteArray), .string (⟨#[]⟩ : ByteArray), .slice none 0 0]) (t := 105) ?hr ?_; (case hd => rfl); (case hg => rfl); (case hr => first | (go_simp; done) | (go_simp; rfl)); intro gb264 hg w4 hbox hb; have n0_ := Aside0.mk (blk_below (g := gb263) (o := .cells #[.int .i64 a1_0, .string a1_1, .int .i64 a1_2, .slice A1_3 l1_3.length c1_3, .slice A1_4 l1_4.length c1_4, .slice A1_5 l1_5.length c1_5, .string a1_6, .string a1_7, .string a1_8, .slice A1_9 l1_9.length c1_9] 28 (0, 0)) (by (with_reducible repeat (fail)); exact BK263.out) hb); have n1_ := Aside0.mk (below_step (by repeat ((with_reducible exact HB.out))) hb); have n2_ := Aside0.mk (hbox); have n3_ := Aside0.mk ((by rw [hg]; exact (below_size (by repeat ((with_reducible exact HB.out)))) : w.heap.size ≤ gb264)); have n4_ := Aside0.mk ((by rw [hg]; exact (below_size (by repeat ((with_reducible exact HB.out)))) : w.heap.size ≤ gb264)); have n5_ := Aside0.mk ((by rw [hg]; exact Nat.ne_of_lt (blk_lt (g := gb263) (o := .cells #[.int .i64 a1_0, .string a1_1, .int .i64 a1_2, .slice A1_3 l1_3.length c1_3, .slice A1_4 l1_4.length c1_4, .slice A1_5 l1_5.length c1_5, .string a1_6, .string a1_7, .string a1_8, .slice A1_9 l1_9.length c1_9] 28 (0, 0)) (by (with_reducible repeat (fail)); exact BK263.out)) : gb263 ≠ gb264)); have n6_ := Aside0.mk ((by rw [hg]; exact Nat.ne_of_gt (blk_lt (g := gb263) (o := .cells #[.int .i64 a1_0, .string a1_1, .int .i64 a1_2, .slice A1_3 l1_3.length c1_3, .slice A1_4 l1_4.length c1_4, .slice A1_5 l1_5.length c1_5, .string a1_6, .string a1_7, .string a1_8, .slice A1_9 l1_9.length c1_9] 28 (0, 0)) (by (with_reducible repeat (fail)); exact BK263.out)) : gb264 ≠ gb263)); clear BK263; clear HB; have BK263 := n0_; have HB := n1_; have BK264 := n2_; have GW264 := n3_; have GE264 := n4_; have NB263_264 := n5_; have NB264_263 := n6_; clear n0_ n1_ n2_ n3_ n4_ n5_ n6_; clear hb hbox hg) | ((with_reducible refine gate_dst (N := 5) rfl ?_); refine box_event ?hg (N := 5) ?hd (cs := #[.string (⟨#[]⟩ : ByteArray), .string (⟨#[]⟩ : ByteArray), .slice none 0 0]) (t := 105) ?hr ?_; (case hd => rfl); (case hg => rfl); (case hr => first | (go_simp; done) | (go_simp; rfl)); intro gb265 hg w5 hbox hb; have n0_ := Aside0.mk (blk_below (g := gb263) (o := .cells #[.int .i64 a1_0, .string a1_1, .int .i64 a1_2, .slice A1_3 l1_3.length c1_3, .slice A1_4 l1_4.length c1_4, .slice A1_5 l1_5.length c1_5, .string a1_6, .string a1_7, .string a1_8, .slice A1_9 l1_9.length c1_9] 28 (0, 0)) (by (with_reducible repeat (fail)); exact BK263.out) hb); have n1_ := Aside0.mk (blk_below (g := gb264) (o := .cells #[.string (⟨#[]⟩ : ByteArray), .string (⟨#[]⟩ : ByteArray), .slice none 0 0] 105 (0, 0)) (by (with_reducible repeat (fail)); exact BK264.out) hb); have n2_ := Aside0.mk (below_step (by repeat ((with_reducible exact HB.out))) hb); have n3_ := Aside0.mk (hbox); have n4_ := Aside0.mk ((by rw [hg]; exact (below_size (by repeat ((with_reducible exact HB.out)))) : w.heap.size ≤ gb265)); have n5_ := Aside0.mk ((by rw [hg]; exact (below_size (by repeat ((with_reducible exact HB.out)))) : w.heap.size ≤ gb265)); have n6_ := Aside0.mk ((by rw [hg]; exact Nat.ne_of_lt (blk_lt (g := gb263) (o := .cells #[.int .i64 a1_0, .string a1_1, .int .i64 a1_2, .slice A1_3 l1_3.length c1_3, .slice A1_4 l1_4.length c1_4, .slice A1_5 l1_5.length c1_5, .string a1_6, .string a1_7, .string a1_8, .slice A1_9 l1_9.length c1_9] 28 (0, 0)) (by (with_reducible repeat (fail)); exact BK263.out)) : gb263 ≠ gb265)); have n7_ := Aside0.mk ((by rw [hg]; exact Nat.ne_of_gt (blk_lt (g := gb263) (o := .cells #[.int .i64 a1_0, .string a1_1, .int .i64 a1_2, .slice A1_3 l1_3.length c1_3, .slice A1_4 l1_4.length c1_4, .slice A1_5 l1_5.length c1_5, .string a1_6, .string a1_7, .string a1_8, .slice A1_9 l1_9.length c1_9] 28 (0, 0)) (by (with_reducible repeat (fail)); exact BK263.out)) : gb265 ≠ gb263)); have n8_ := Aside0.mk ((by rw [hg]; exact Nat.ne_of_lt (blk_lt (g := gb264) (o := .cells #[.string (⟨#[]⟩ : ByteArray), .string (⟨#[]⟩ : ByteArray), .slice none 0 0] 105 (0, 0)) (by (with_reducible repeat (fail)); exact BK264.out)) : gb264 ≠ gb265)); have n9_ := Aside0.mk ((by rw [hg]; exact Nat.ne_of_gt (blk_lt (g := gb264) (o := .cells #[.string (⟨#[]⟩ : ByteArray), .string (⟨#[]⟩ : ByteArray), .slice none 0 0] 105 (0, 0)) (by (with_reducible repeat (fail)); exact BK264.out)) : gb265 ≠ gb264)); clear BK263; clear BK264; clear HB; have BK263 := n0_; have BK264 := n1_; have HB := n2_; have BK265 := n3_; have GW265 := n4_; have GE265 := n5_; have NB263_265 := n6_; have NB265_263 := n7_; have NB264_265 := n8_; have NB265_264 := n9_; clear n0_ n1_ n2_ n3_ n4_ n5_ n6_ n7_ n8_ n9_; clear hb hbox hg; have hnb6 := NB265_263.out; have hnc6 := NB263_265.out; have hnb7 := NB265_264.out; have hnc7 := NB264_265.out; have hcz8_0 : w5.cell? ⟨gb265, 0, none⟩ = some (.string (⟨#[]⟩ : ByteArray)) := (blk_cell BK265.out 0).trans rfl; have hcz8_1 : w5.cell? ⟨gb265, 1, none⟩ = some (.string (⟨#[]⟩ : ByteArray)) := (blk_cell BK265.out 1).trans rfl; have hcz8_2 : w5.cell? ⟨gb265, 2, none⟩ = some (.slice none 0 0) := (blk_cell BK265.out 2).trans rfl; have hfz8_0 := blk_frozen BK265.out 0; have hfz8_1 := blk_frozen BK265.out 1; have hfz8_2 := blk_frozen BK265.out 2; have hnb9 := NB263_264.out; have hnc9 := NB264_263.out; have hcz10_0 : w5.cell? ⟨gb263, 0, none⟩ = some (.int .i64 a1_0) := (blk_cell BK263.out 0).trans rfl; have hcz10_1 : w5.cell? ⟨gb263, 1, none⟩ = some (.string a1_1) := (blk_cell BK263.out 1).trans rfl; have hcz10_2 : w5.cell? ⟨gb263, 2, none⟩ = some (.int .i64 a1_2) := (blk_cell BK263.out 2).trans rfl; have hcz10_3 : w5.cell? ⟨gb263, 3, none⟩ = some (.slice A1_3 l1_3.length c1_3) := (blk_cell BK263.out 3).trans rfl; have hcz10_4 : w5.cell? ⟨gb263, 4, none⟩ = some (.slice A1_4 l1_4.length c1_4) := (blk_cell BK263.out 4).trans rfl; have hcz10_5 : w5.cell? ⟨gb263, 5, none⟩ = some (.slice A1_5 l1_5.length c1_5) := (blk_cell BK263.out 5).trans rfl; have hcz10_6 : w5.cell? ⟨gb263, 6, none⟩ = some (.string a1_6) := (blk_cell BK263.out 6).trans rfl; have hcz10_7 : w5.cell? ⟨gb263, 7, none⟩ = some (.string a1_7) := (blk_cell BK263.out 7).trans rfl; have hcz10_8 : w5.cell? ⟨gb263, 8, none⟩ = some (.string a1_8) := (blk_cell BK263.out 8).trans rfl; have hcz10_9 : w5.cell? ⟨gb263, 9, none⟩ = some (.slice A1_9 l1_9.length c1_9) := (blk_cell BK263.out 9).trans rfl; have hfz10_0 := blk_frozen BK263.out 0; have hfz10_1 := blk_frozen BK263.out 1; have hfz10_2 := blk_frozen BK263.out 2; have hfz10_3 := blk_frozen BK263.out 3; have hfz10_4 := blk_frozen BK263.out 4; have hfz10_5 := blk_frozen BK263.out 5; have hfz10_6 := blk_frozen BK263.out 6; have hfz10_7 := blk_frozen BK263.out 7; have hfz10_8 := blk_frozen BK263.out 8; have hfz10_9 := blk_frozen BK263.out 9))
 go_loopg [14] k (fun kq v14 w' => ∃ (x14_1 : Int) (x266002_1 : List (S172)) (u266002 : Value), v14 = .int .i64 x14_1 ∧ Aside0 (impl_element.l0 kq l1_9 (l1_9.length : Int) x14_1 (⟨#[]⟩ : ByteArray) a0 x266002_1 = some (r1, r2, r3)) ∧ Aside0 (kq ≤ k) ∧ Aside0 (Kd.R k172 172 w' w.heap.size (fun _ => True) u266002 x266002_1) ∧ Aside0 (w'.heap[gb263]? = some (.cells #[.int .i64 a1_0, .string a1_1, .int .i64 a1_2, (.slice A1_3 l1_3.length c1_3), (.slice A1_4 l1_4.length c1_4), (.slice A1_5 l1_5.length c1_5), .string a1_6, .string a1_7, .string a1_8, (.slice A1_9 l1_9.length c1_9)] 28 (0, 0))) ∧ Aside0 (w'.heap[gb264]? = some (.cells #[.string (⟨#[]⟩ : ByteArray), .string (⟨#[]⟩ : ByteArray), (.slice none 0 0)] 105 (0, 0))) ∧ Aside0 (w'.heap[gb265]? = some (.cells #[.string (⟨#[]⟩ : ByteArray), .string a0, u266002] 105 (0, 0))) ∧ Aside0 (Below w.heap.size w w'))
 case atStart => exact ⟨(0), (([] : List (S172))), (.slice none 0 0), (by first | rfl | (simp; done) | (simp [*]; done)), H', ⟨Nat.le_refl _⟩, ⟨by exact Kd.R_nil _ _ _ _ _⟩, ⟨by (with_reducible repeat (fail)); refine blk_far ?_ NB263_265.out _; (with_reducible repeat (fail)); refine blk_far ?_ NB263_265.out _; (with_reducible repeat (fail)); refine blk_far ?_ NB263_265.out _; (with_reducible repeat (fail)); exact BK263.out⟩, ⟨by (with_reducible repeat (fail)); refine blk_far ?_ NB264_265.out _; (with_reducible repeat (fail)); refine blk_far ?_ NB264_265.out _; (with_reducible repeat (fail)); refine blk_far ?_ NB264_265.out _; (with_reducible repeat (fail)); exact BK264.out⟩, ⟨by (with_reducible repeat (fail)); refine blk_put (cs := #[.string (⟨#[]⟩ : ByteArray), .string a0, .slice none 0 0]) ?_ 2 _ rfl; (with_reducible repeat (fail)); refine blk_put (cs := #[.string (⟨#[]⟩ : ByteArray), .string (⟨#[]⟩ : ByteArray), .slice none 0 0]) ?_ 1 _ rfl; (with_reducible repeat (fail)); refine blk_put (cs := #[.string (⟨#[]⟩ : ByteArray), .string (⟨#[]⟩ : ByteArray), .slice none 0 0]) ?_ 0 _ rfl; (with_reducible repeat (fail)); exact BK265.out⟩, ⟨by repeat ((with_reducible first | exact HB.out | refine below_set ?_ GE265.out))⟩⟩
 case round =>
  clear H'
  try clear c1
  try clear p2
  try clear c4
  try clear c6
  try clear c7
  try clear c9
  try clear hcz10_0
  try clear hcz10_1
  try clear hcz10_2
  try clear hcz10_3
  try clear hcz10_4
  try clear hcz10_5
  try clear hcz10_6
  try clear hcz10_7
  try clear hcz10_8
  try clear hcz10_9
  try clear hcz8_0
  try clear hcz8_1
  try clear hcz8_2
  try clear hfz10_0
  try clear hfz10_1
  try clear hfz10_2
  try clear hfz10_3
  try clear hfz10_4
  try clear hfz10_5
  try clear hfz10_6
  try clear hfz10_7
  try clear hfz10_8
  try clear hfz10_9
  try clear hfz8_0
  try clear hfz8_1
  try clear hfz8_2
  obtain ⟨x14_1, x266002_1, u266002, rfl, HA, HK1, HO_266002, BK263, BK264, BK265, HB⟩ := hrel
  cases gk with
  | zero => exact absurd HA.out (by simp [impl_element.l0])
  | succ k1 =>
    have H := HA.out
    clear HA
    simp only [impl_element.l0] at H
    by_cases c11 : x14_1 < (l1_9.length : Int)
    ·rw [if_pos c11] at H
     have c11b0 : decide (x14_1 < (l1_9.length : Int)) = true := decide_eq_true c11
     clear c11
     by_cases c12 : 0 ≤ x14_1
     ·rw [if_pos c12] at H
      have c12b0 : decide (0 ≤ x14_1) = true := decide_eq_true c12
      clear c12
      by_cases c13 : x14_1 < (l1_9.length : Int)
      ·rw [if_pos c13] at H
       have c13b0 : decide (x14_1 < (l1_9.length : Int)) = true := decide_eq_true c13
       clear c13
       obtain ⟨bq14, hbq14⟩ : ∃ b_ : Bool, b_ = ((rd_T45 l1_9 x14_1).f2) := ⟨_, rfl⟩
       replace H : (if bq14 = true then ((smxml_NewNamespaceAttribute.f ((rd_T45 l1_9 x14_1).f0) ((rd_T45 l1_9 x14_1).f1)).bind fun bt268 => (if x266002_1.length < 2932031007402 then (impl_element.l0 k1 l1_9 (l1_9.length : Int) (wrap64 (x14_1 + 1)) (⟨#[]⟩ : ByteArray) a0 (x266002_1 ++ [(⟨(⟨bt268.1, bt268.2.1⟩ : S102), bt268.2.2⟩ : S172)])) else (none))) else ((smxml_NewAttribute.f ((rd_T45 l1_9 x14_1).f0) ((rd_T45 l1_9 x14_1).f1)).bind fun bt274 => (if x266002_1.length < 2932031007402 then (impl_element.l0 k1 l1_9 (l1_9.length : Int) (wrap64 (x14_1 + 1)) (⟨#[]⟩ : ByteArray) a0 (x266002_1 ++ [(⟨(⟨bt274.1, bt274.2.1⟩ : S102), bt274.2.2⟩ : S172)])) else (none)))) = some (r1, r2, r3) := by rw [← hbq14] at H; exact H
       have Nbq14 := Aside0.mk hbq14
       clear hbq14
       by_cases c15 : bq14 = true
       ·subst c15
        have H1 : ((smxml_NewNamespaceAttribute.f ((rd_T45 l1_9 x14_1).f0) ((rd_T45 l1_9 x14_1).f1)).bind fun bt268 => (if x266002_1.length < 2932031007402 then (impl_element.l0 k1 l1_9 (l1_9.length : Int) (wrap64 (x14_1 + 1)) (⟨#[]⟩ : ByteArray) a0 (x266002_1 ++ [(⟨(⟨bt268.1, bt268.2.1⟩ : S102), bt268.2.2⟩ : S172)])) else (none))) = some (r1, r2, r3) := by rw [if_pos rfl] at H; exact H
        clear H
        have H := H1
        clear H1
        replace H := Option.bind_eq_some_iff.mp H
        obtain ⟨⟨t268, t269, t270⟩, A160, H⟩ := H
        replace H : (if x266002_1.length < 2932031007402 then (impl_element.l0 k1 l1_9 (l1_9.length : Int) (wrap64 (x14_1 + 1)) (⟨#[]⟩ : ByteArray) a0 (x266002_1 ++ [(⟨(⟨t268, t269⟩ : S102), t270⟩ : S172)])) else (none)) = some (r1, r2, r3) := H
        have A16 := Aside0.mk A160
        clear A160
        by_cases c17 : x266002_1.length < 2932031007402
        ·rw [if_pos c17] at H
         have LMc17 := Aside0.mk c17
         clear c17
         obtain ⟨y271, hy271⟩ : ∃ y_ : List (S172), y_ = (x266002_1 ++ [(⟨(⟨t268, t269⟩ : S102), t270⟩ : S172)]) := ⟨_, rfl⟩
         replace H : (impl_element.l0 k1 l1_9 (l1_9.length : Int) (wrap64 (x14_1 + 1)) (⟨#[]⟩ : ByteArray) a0 y271) = some (r1, r2, r3) := by (rw [hy271]; with_reducible exact H)
         have Ny271 := Aside0.mk hy271
         clear hy271
         have H' := Aside0.mk H
         clear H
         have p266 : 0 ≤ (x14_1 : Int) := of_decide_eq_true (by first | (with_reducible assumption) | assumption)
         have q266 : x14_1 < (l1_9.length : Int) := of_decide_eq_true (by first | (with_reducible assumption) | assumption)
         obtain ⟨ad266, e266, hx266_0, hx266_1, hx266_2⟩ := at_T45 HR1_9.out x14_1 p266 q266
         (try rw [← Nbq14.out] at hx266_2)
         cases e266
         replace hx266_0 := (HB.out.cell (World.block_lt_of_cell? w _ hx266_0)).trans hx266_0
         replace hx266_1 := (HB.out.cell (World.block_lt_of_cell? w _ hx266_1)).trans hx266_1
         replace hx266_2 := (HB.out.cell (World.block_lt_of_cell? w _ hx266_2)).trans hx266_2
         replace p266 := eq_true p266
         replace q266 := eq_true q266
         try go_wp2_with (first | ((with_reducible refine gate_dst (N := 7) rfl ?_); refine box_event ?hg (N := 7) ?hd (cs := #[.string (⟨#[]⟩ : ByteArray), .string (⟨#[]⟩ : ByteArray), .bool false]) (t := 45) ?hr ?_; (case hd => rfl); (case hg => rfl); (case hr => first | (go_simp; done) | (go_simp; rfl)); intro gb267 hg w18 hbox hb; have n0_ := Aside0.mk (Kd.R_below (by (with_reducible repeat (first | apply Kd.R_alloc | apply Kd.R_drewN | apply Kd.R_drew)); exact HO_266002.out) hb); have n1_ := Aside0.mk (blk_below (g := gb263) (o := .cells #[.int .i64 a1_0, .string a1_1, .int .i64 a1_2, .slice A1_3 l1_3.length c1_3, .slice A1_4 l1_4.length c1_4, .slice A1_5 l1_5.length c1_5, .string a1_6, .string a1_7, .string a1_8, .slice (some ad266) l1_9.length c1_9] 28 (0, 0)) (by (with_reducible repeat (fail)); exact BK263.out) hb); have n2_ := Aside0.mk (blk_below (g := gb264) (o := .cells #[.string (⟨#[]⟩ : ByteArray), .string (⟨#[]⟩ : ByteArray), .slice none 0 0] 105 (0, 0)) (by (with_reducible repeat (fail)); exact BK264.out) hb); have n3_ := Aside0.mk (blk_below (g := gb265) (o := .cells #[.string (⟨#[]⟩ : ByteArray), .string a0, u266002] 105 (0, 0)) (by (with_reducible repeat (fail)); exact BK265.out) hb); have n4_ := Aside0.mk (below_step (by repeat ((with_reducible exact HB.out))) hb); have n5_ := Aside0.mk (hbox); have n6_ := Aside0.mk ((by rw [hg]; exact (below_size (by repeat ((with_reducible exact HB.out)))) : w.heap.size ≤ gb267)); have n7_ := Aside0.mk ((by rw [hg]; exact (below_size (by repeat ((with_reducible exact HB.out)))) : w.heap.size ≤ gb267)); have n8_ := Aside0.mk ((by rw [hg]; exact Nat.ne_of_lt (blk_lt (g := gb263) (o := .cells #[.int .i64 a1_0, .string a1_1, .int .i64 a1_2, .slice A1_3 l1_3.length c1_3, .slice A1_4 l1_4.length c1_4, .slice A1_5 l1_5.length c1_5, .string a1_6, .string a1_7, .string a1_8, .slice (some ad266) l1_9.length c1_9] 28 (0, 0)) (by (with_reducible repeat (fail)); exact BK263.out)) : gb263 ≠ gb267)); have n9_ := Aside0.mk ((by rw [hg]; exact Nat.ne_of_gt (blk_lt (g := gb263) (o := .cells #[.int .i64 a1_0, .string a1_1, .int .i64 a1_2, .slice A1_3 l1_3.length c1_3, .slice A1_4 l1_4.length c1_4, .slice A1_5 l1_5.length c1_5, .string a1_6, .string a1_7, .string a1_8, .slice (some ad266) l1_9.length c1_9] 28 (0, 0)) (by (with_reducible repeat (fail)); exact BK263.out)) : gb267 ≠ gb263)); have n10_ := Aside0.mk ((by rw [hg]; exact Nat.ne_of_lt (blk_lt (g := gb264) (o := .cells #[.string (⟨#[]⟩ : ByteArray), .string (⟨#[]⟩ : ByteArray), .slice none 0 0] 105 (0, 0)) (by (with_reducible repeat (fail)); exact BK264.out)) : gb264 ≠ gb267)); have n11_ := Aside0.mk ((by rw [hg]; exact Nat.ne_of_gt (blk_lt (g := gb264) (o := .cells #[.string (⟨#[]⟩ : ByteArray), .string (⟨#[]⟩ : ByteArray), .slice none 0 0] 105 (0, 0)) (by (with_reducible repeat (fail)); exact BK264.out)) : gb267 ≠ gb264)); have n12_ := Aside0.mk ((by rw [hg]; exact Nat.ne_of_lt (blk_lt (g := gb265) (o := .cells #[.string (⟨#[]⟩ : ByteArray), .string a0, u266002] 105 (0, 0)) (by (with_reducible repeat (fail)); exact BK265.out)) : gb265 ≠ gb267)); have n13_ := Aside0.mk ((by rw [hg]; exact Nat.ne_of_gt (blk_lt (g := gb265) (o := .cells #[.string (⟨#[]⟩ : ByteArray), .string a0, u266002] 105 (0, 0)) (by (with_reducible repeat (fail)); exact BK265.out)) : gb267 ≠ gb265)); clear HO_266002; clear BK263; clear BK264; clear BK265; clear HB; have HO_266002 := n0_; have BK263 := n1_; have BK264 := n2_; have BK265 := n3_; have HB := n4_; have BK267 := n5_; have GW267 := n6_; have GE267 := n7_; have NB263_267 := n8_; have NB267_263 := n9_; have NB264_267 := n10_; have NB267_264 := n11_; have NB265_267 := n12_; have NB267_265 := n13_; clear n0_ n1_ n2_ n3_ n4_ n5_ n6_ n7_ n8_ n9_ n10_ n11_ n12_ n13_; clear hb hbox hg; have hnb19 := NB267_263.out; have hnc19 := NB263_267.out; have hnb20 := NB267_264.out; have hnc20 := NB264_267.out; have hnb21 := NB267_265.out; have hnc21 := NB265_267.out; have hcz22_0 : w18.cell? ⟨gb267, 0, none⟩ = some (.string (⟨#[]⟩ : ByteArray)) := (blk_cell BK267.out 0).trans rfl; have hcz22_1 : w18.cell? ⟨gb267, 1, none⟩ = some (.string (⟨#[]⟩ : ByteArray)) := (blk_cell BK267.out 1).trans rfl; have hcz22_2 : w18.cell? ⟨gb267, 2, none⟩ = some (.bool false) := (blk_cell BK267.out 2).trans rfl; have hfz22_0 := blk_frozen BK267.out 0; have hfz22_1 := blk_frozen BK267.out 1; have hfz22_2 := blk_frozen BK267.out 2))
         have n0_ : Aside0 (Kd.R k172 172 (((w18.setCell ⟨gb267, 0, none⟩ (.string ((rd_T45 l1_9 x14_1).f0))).setCell ⟨gb267, 1, none⟩ (.string ((rd_T45 l1_9 x14_1).f1))).setCell ⟨gb267, 2, none⟩ (.bool true)) w.heap.size (fun _ => True) u266002 x266002_1) := ⟨by (with_reducible repeat (first | apply Kd.R_alloc | apply Kd.R_drewN | apply Kd.R_drew)); exact Kd.R_mono (Kd.R_far (p := ⟨gb267, 2, none⟩) (Kd.R_far (p := ⟨gb267, 1, none⟩) (Kd.R_far (p := ⟨gb267, 0, none⟩) (Kd.R_types HO_266002.out BK267.out (by decide)) (fun _ hk => hk.2) (.string ((rd_T45 l1_9 x14_1).f0))) (fun _ hk => hk.2) (.string ((rd_T45 l1_9 x14_1).f1))) (fun _ hk => hk.2) (.bool true)) (fun _ hk => trivial)⟩
         have n1_ : Aside0 ((((w18.setCell ⟨gb267, 0, none⟩ (.string ((rd_T45 l1_9 x14_1).f0))).setCell ⟨gb267, 1, none⟩ (.string ((rd_T45 l1_9 x14_1).f1))).setCell ⟨gb267, 2, none⟩ (.bool true)).heap[gb263]? = some (.cells #[.int .i64 a1_0, .string a1_1, .int .i64 a1_2, .slice A1_3 l1_3.length c1_3, .slice A1_4 l1_4.length c1_4, .slice A1_5 l1_5.length c1_5, .string a1_6, .string a1_7, .string a1_8, .slice (some ad266) l1_9.length c1_9] 28 (0, 0))) := ⟨by (with_reducible repeat (fail)); refine blk_far ?_ NB263_267.out _; (with_reducible repeat (fail)); refine blk_far ?_ NB263_267.out _; (with_reducible repeat (fail)); refine blk_far ?_ NB263_267.out _; (with_reducible repeat (fail)); exact BK263.out⟩
         have n2_ : Aside0 ((((w18.setCell ⟨gb267, 0, none⟩ (.string ((rd_T45 l1_9 x14_1).f0))).setCell ⟨gb267, 1, none⟩ (.string ((rd_T45 l1_9 x14_1).f1))).setCell ⟨gb267, 2, none⟩ (.bool true)).heap[gb264]? = some (.cells #[.string (⟨#[]⟩ : ByteArray), .string (⟨#[]⟩ : ByteArray), .slice none 0 0] 105 (0, 0))) := ⟨by (with_reducible repeat (fail)); refine blk_far ?_ NB264_267.out _; (with_reducible repeat (fail)); refine blk_far ?_ NB264_267.out _; (with_reducible repeat (fail)); refine blk_far ?_ NB264_267.out _; (with_reducible repeat (fail)); exact BK264.out⟩
         have n3_ : Aside0 ((((w18.setCell ⟨gb267, 0, none⟩ (.string ((rd_T45 l1_9 x14_1).f0))).setCell ⟨gb267, 1, none⟩ (.string ((rd_T45 l1_9 x14_1).f1))).setCell ⟨gb267, 2, none⟩ (.bool true)).heap[gb265]? = some (.cells #[.string (⟨#[]⟩ : ByteArray), .string a0, u266002] 105 (0, 0))) := ⟨by (with_reducible repeat (fail)); refine blk_far ?_ NB265_267.out _; (with_reducible repeat (fail)); refine blk_far ?_ NB265_267.out _; (with_reducible repeat (fail)); refine blk_far ?_ NB265_267.out _; (with_reducible repeat (fail)); exact BK265.out⟩
         have n4_ : Aside0 ((((w18.setCell ⟨gb267, 0, none⟩ (.string ((rd_T45 l1_9 x14_1).f0))).setCell ⟨gb267, 1, none⟩ (.string ((rd_T45 l1_9 x14_1).f1))).setCell ⟨gb267, 2, none⟩ (.bool true)).heap[gb267]? = some (.cells #[.string ((rd_T45 l1_9 x14_1).f0), .string ((rd_T45 l1_9 x14_1).f1), .bool true] 45 (0, 0))) := ⟨by (with_reducible repeat (fail)); refine blk_put (cs := #[.string ((rd_T45 l1_9 x14_1).f0), .string ((rd_T45 l1_9 x14_1).f1), .bool false]) ?_ 2 _ rfl; (with_reducible repeat (fail)); refine blk_put (cs := #[.string ((rd_T45 l1_9 x14_1).f0), .string (⟨#[]⟩ : ByteArray), .bool false]) ?_ 1 _ rfl; (with_reducible repeat (fail)); refine blk_put (cs := #[.string (⟨#[]⟩ : ByteArray), .string (⟨#[]⟩ : ByteArray), .bool false]) ?_ 0 _ rfl; (with_reducible repeat (fail)); exact BK267.out⟩
         have n5_ : Aside0 (Below w.heap.size w (((w18.setCell ⟨gb267, 0, none⟩ (.string ((rd_T45 l1_9 x14_1).f0))).setCell ⟨gb267, 1, none⟩ (.string ((rd_T45 l1_9 x14_1).f1))).setCell ⟨gb267, 2, none⟩ (.bool true))) := ⟨by repeat ((with_reducible first | exact HB.out | refine below_set ?_ GE267.out))⟩
         (try clear HO_266002)
         (try clear BK263)
         (try clear BK264)
         (try clear BK265)
         (try clear BK267)
         (try clear HB)
         generalize (((w18.setCell ⟨gb267, 0, none⟩ (.string ((rd_T45 l1_9 x14_1).f0))).setCell ⟨gb267, 1, none⟩ (.string ((rd_T45 l1_9 x14_1).f1))).setCell ⟨gb267, 2, none⟩ (.bool true)) = w23 at n0_ n1_ n2_ n3_ n4_ n5_ ⊢
         have HO_266002 := n0_
         have BK263 := n1_
         have BK264 := n2_
         have BK265 := n3_
         have BK267 := n4_
         have HB := n5_
         clear n0_ n1_ n2_ n3_ n4_ n5_
         have n0_ := Aside0.mk (Kd.R_drew HO_266002.out)
         have n1_ := Aside0.mk (blk_drew BK263.out)
         have n2_ := Aside0.mk (blk_drew BK264.out)
         have n3_ := Aside0.mk (blk_drew BK265.out)
         have n4_ := Aside0.mk (blk_drew BK267.out)
         have n5_ := Aside0.mk (below_drew1 HB.out)
         clear HO_266002
         clear BK263
         clear BK264
         clear BK265
         clear BK267
         clear HB
         have HO_266002 := n0_
         have BK263 := n1_
         have BK264 := n2_
         have BK265 := n3_
         have BK267 := n4_
         have HB := n5_
         clear n0_ n1_ n2_ n3_ n4_ n5_
         refine start_ (n := 11) (S := fun w' => w'.cell? ⟨gb265, 0, none⟩ = some (.string (⟨#[]⟩ : ByteArray)) ∧ w'.cell? ⟨gb265, 1, none⟩ = some (.string a0) ∧ w'.cell? ⟨gb265, 2, none⟩ = some (u266002) ∧ w'.cell? ⟨gb267, 0, none⟩ = some (.string ((rd_T45 l1_9 x14_1).f0)) ∧ w'.cell? ⟨gb267, 1, none⟩ = some (.string ((rd_T45 l1_9 x14_1).f1)) ∧ w'.cell? ⟨gb267, 2, none⟩ = some (.bool true)) (ds := [10]) #[false, false, false, false, false, false, false, false, false, false, false] (by kernel_rfl) rfl rfl ⟨(blk_cell BK265.out 0).trans rfl, (blk_cell BK265.out 1).trans rfl, (blk_cell BK265.out 2).trans rfl, (blk_cell BK267.out 0).trans rfl, (blk_cell BK267.out 1).trans rfl, (blk_cell BK267.out 2).trans rfl⟩ (fun hHeld => ?_); refine with_tabW impl_element.tab6 impl_element.bits6 (fun HT_ HW_ => ?_)
         generalize w23.drew = w24 at HO_266002 BK263 BK264 BK265 BK267 HB hHeld ⊢
         refine pure_ (i := 0) (N := some 20) (v := ?_) (a' := ?_) #[true, false, false, false, false, false, false, false, false, false, false] rfl rfl (any_of HT_.out (by kernel_rfl)) (fun _ _ _ h => h) (Or.inl ⟨by rfl, ?_⟩) ?_ ?_
         rotate_left
         ·intro w'
          go_simp
          with_reducible rfl
         rotate_left
         ·simp only [Act.put, List.setIfInBounds_toArray, List.set_cons_zero, List.set_cons_succ, i64_w, i32_w]
          rfl
         refine pure_ (i := 2) (N := some 22) (v := ?_) (a' := ?_) #[true, false, true, false, false, false, false, false, false, false, false] rfl rfl (any_of HT_.out (by kernel_rfl)) (fun _ _ _ h => h) (Or.inl ⟨by rfl, ?_⟩) ?_ ?_
         rotate_left
         ·intro w'
          go_simp
          with_reducible rfl
         rotate_left
         ·simp only [Act.put, List.setIfInBounds_toArray, List.set_cons_zero, List.set_cons_succ, i64_w, i32_w]
          rfl
         refine pure_ (i := 4) (N := some 24) (v := ?_) (a' := ?_) #[true, false, true, false, true, false, false, false, false, false, false] rfl rfl (any_of HT_.out (by kernel_rfl)) (fun _ _ _ h => h) (Or.inl ⟨by rfl, ?_⟩) ?_ ?_
         rotate_left
         ·intro w'
          go_simp
          with_reducible rfl
         rotate_left
         ·simp only [Act.put, List.setIfInBounds_toArray, List.set_cons_zero, List.set_cons_succ, i64_w, i32_w]
          rfl
         refine take_ (i := 1) (N := some 21) (v := ?_) (a' := ?_) #[true, true, true, false, true, false, false, false, false, false, false] rfl rfl (take_ofW HT_.out HW_.out (by kernel_rfl)) (fun _ _ _ h => h) (Or.inl ⟨by rfl, ?_⟩) hHeld ?_ ?_
         rotate_left
         ·rintro w' ⟨s0, s1, s2, s3, s4, s5⟩
          go_simp
          with_reducible rfl
         rotate_left
         ·simp only [Act.put, List.setIfInBounds_toArray, List.set_cons_zero, List.set_cons_succ, i64_w, i32_w]
          rfl
         refine take_ (i := 3) (N := some 23) (v := ?_) (a' := ?_) #[true, true, true, true, true, false, false, false, false, false, false] rfl rfl (take_ofW HT_.out HW_.out (by kernel_rfl)) (fun _ _ _ h => h) (Or.inl ⟨by rfl, ?_⟩) hHeld ?_ ?_
         rotate_left
         ·rintro w' ⟨s0, s1, s2, s3, s4, s5⟩
          go_simp
          with_reducible rfl
         rotate_left
         ·simp only [Act.put, List.setIfInBounds_toArray, List.set_cons_zero, List.set_cons_succ, i64_w, i32_w]
          rfl
         refine take_ (i := 5) (N := some 25) (v := ?_) (a' := ?_) #[true, true, true, true, true, true, false, false, false, false, false] rfl rfl (take_ofW HT_.out HW_.out (by kernel_rfl)) (fun _ _ _ h => h) (Or.inl ⟨by rfl, ?_⟩) hHeld ?_ ?_
         rotate_left
         ·rintro w' ⟨s0, s1, s2, s3, s4, s5⟩
          go_simp
          with_reducible rfl
         rotate_left
         ·simp only [Act.put, List.setIfInBounds_toArray, List.set_cons_zero, List.set_cons_succ, i64_w, i32_w]
          rfl
         refine one_ (i := 6) (N := some 26) #[true, true, true, true, true, true, true, false, false, false, false] rfl rfl (one_of HT_.out (by kernel_rfl)) (by decide) (fun K hK => ?_)
         refine goes_ Tryz.func125 (by kernel_rfl) rfl #[.string ((rd_T45 l1_9 x14_1).f0), .string ((rd_T45 l1_9 x14_1).f1)] (by rfl) rfl rfl (by (try simp only [List.map_toArray, List.map_cons, List.map_nil]); rfl) ?_
         with_reducible refine (smxml_NewNamespaceAttribute.calls ((rd_T45 l1_9 x14_1).f0) ((rd_T45 l1_9 x14_1).f1) t268 t269 t270 _ A16.out).mono ?_
         rintro e w25 ⟨rfl, hb⟩
         refine ⟨_, rfl, ?_⟩
         have n0_ := Aside0.mk (Kd.R_below (by (with_reducible repeat (first | apply Kd.R_alloc | apply Kd.R_drewN | apply Kd.R_drew)); exact HO_266002.out) hb)
         have n1_ := Aside0.mk (blk_below (g := gb263) (o := .cells #[.int .i64 a1_0, .string a1_1, .int .i64 a1_2, .slice A1_3 l1_3.length c1_3, .slice A1_4 l1_4.length c1_4, .slice A1_5 l1_5.length c1_5, .string a1_6, .string a1_7, .string a1_8, .slice (some ad266) l1_9.length c1_9] 28 (0, 0)) (by (with_reducible repeat (fail)); exact BK263.out) hb)
         have n2_ := Aside0.mk (blk_below (g := gb264) (o := .cells #[.string (⟨#[]⟩ : ByteArray), .string (⟨#[]⟩ : ByteArray), .slice none 0 0] 105 (0, 0)) (by (with_reducible repeat (fail)); exact BK264.out) hb)
         have n3_ := Aside0.mk (blk_below (g := gb265) (o := .cells #[.string (⟨#[]⟩ : ByteArray), .string a0, u266002] 105 (0, 0)) (by (with_reducible repeat (fail)); exact BK265.out) hb)
         have n4_ := Aside0.mk (blk_below (g := gb267) (o := .cells #[.string ((rd_T45 l1_9 x14_1).f0), .string ((rd_T45 l1_9 x14_1).f1), .bool true] 45 (0, 0)) (by (with_reducible repeat (fail)); exact BK267.out) hb)
         have n5_ := Aside0.mk (below_step (by repeat ((with_reducible exact HB.out))) hb)
         clear HO_266002
         clear BK263
         clear BK264
         clear BK265
         clear BK267
         clear HB
         have HO_266002 := n0_
         have BK263 := n1_
         have BK264 := n2_
         have BK265 := n3_
         have BK267 := n4_
         have HB := n5_
         clear n0_ n1_ n2_ n3_ n4_ n5_
         (try clear hb)
         (try clear hb2)
         (try clear hk)
         (try clear hi)
         refine hK.out _ _ ⟨(blk_cell BK265.out 0).trans rfl, (blk_cell BK265.out 1).trans rfl, (blk_cell BK265.out 2).trans rfl, (blk_cell BK267.out 0).trans rfl, (blk_cell BK267.out 1).trans rfl, (blk_cell BK267.out 2).trans rfl⟩ (fun hHeld => ?_)
         clear hK K
         refine norm_ (a' := ?_) ?_ ?_
         rotate_left
         ·show Act.put _ (some 26) _ = _
          simp only [Act.put, List.setIfInBounds_toArray, List.set_cons_zero, List.set_cons_succ, i64_w, i32_w]
          rfl
         refine one_ (i := 7) (N := some 27) #[true, true, true, true, true, true, true, true, false, false, false] rfl rfl (one_of HT_.out (by kernel_rfl)) (by decide) (fun K hK => ?_)
         refine value_ (w1 := ?_) (v := ?_) (by rfl) rfl ?_ ?_
         rotate_left 2
         ·go_simp
          constructor
          ·rfl
          ·rfl
         refine hK.out _ _ ⟨(blk_cell (blk_alloc BK265.out _) 0).trans rfl, (blk_cell (blk_alloc BK265.out _) 1).trans rfl, (blk_cell (blk_alloc BK265.out _) 2).trans rfl, (blk_cell (blk_alloc BK267.out _) 0).trans rfl, (blk_cell (blk_alloc BK267.out _) 1).trans rfl, (blk_cell (blk_alloc BK267.out _) 2).trans rfl⟩ (fun hHeld => ?_)
         clear hK K
         refine norm_ (a' := ?_) ?_ ?_
         rotate_left
         ·show Act.put _ (some 27) _ = _
          simp only [Act.put, List.setIfInBounds_toArray, List.set_cons_zero, List.set_cons_succ, i64_w, i32_w]
          rfl
         refine one_ (i := 8) (N := some 28) #[true, true, true, true, true, true, true, true, true, false, false] rfl rfl (one_of HT_.out (by kernel_rfl)) (by decide) (fun K hK => ?_)
         refine Kd.R_append_step k172 (w0 := w) w.heap.size (by rfl) (.tmp 21) (.tmp 27) 103 172 (.agg #[(.string ⟨#[]⟩), (.string ⟨#[]⟩), (.string ⟨#[]⟩)]) 48 rfl Tryz.underlying103 info172 rfl (by decide) (by omega) u266002 x266002_1 (⟨(⟨t268, t269⟩ : S102), t270⟩ : S172) [.string t268, .string t269, .string t270] (fun _ => True) (fun _ => False) rfl rfl ?aP (fun _ hk => hk.elim) ?aF ?aO ?aB ?aS ?aL ?_
         (case aP => exact k172_mkM _ _ _ (⟨(⟨t268, t269⟩ : S102), t270⟩ : S172))
         (case aB => exact (by repeat ((with_reducible exact HB.out))))
         (case aF => exact (fun _ _ => trivial))
         (case aO => exact (by (with_reducible repeat (first | apply Kd.R_alloc | apply Kd.R_drewN | apply Kd.R_drew)); exact HO_266002.out))
         (case aS => exact (below_size (by repeat ((with_reducible exact HB.out)))))
         (case aL => have := LMc17.out; omega)
         intro v272 w26 ho hb hg hat
         rw [← Ny271.out] at ho
         have n0_ := Aside0.mk (blk_grown (g := gb263) (o := .cells #[.int .i64 a1_0, .string a1_1, .int .i64 a1_2, .slice A1_3 l1_3.length c1_3, .slice A1_4 l1_4.length c1_4, .slice A1_5 l1_5.length c1_5, .string a1_6, .string a1_7, .string a1_8, .slice (some ad266) l1_9.length c1_9] 28 (0, 0)) (by (with_reducible repeat (fail)); exact BK263.out) hg (Kd.R_ne HO_266002.out BK263.out (by decide)))
         have n1_ := Aside0.mk (blk_grown (g := gb264) (o := .cells #[.string (⟨#[]⟩ : ByteArray), .string (⟨#[]⟩ : ByteArray), .slice none 0 0] 105 (0, 0)) (by (with_reducible repeat (fail)); exact BK264.out) hg (Kd.R_ne HO_266002.out BK264.out (by decide)))
         have n2_ := Aside0.mk (blk_grown (g := gb265) (o := .cells #[.string (⟨#[]⟩ : ByteArray), .string a0, u266002] 105 (0, 0)) (by (with_reducible repeat (fail)); exact BK265.out) hg (Kd.R_ne HO_266002.out BK265.out (by decide)))
         have n3_ := Aside0.mk (blk_grown (g := gb267) (o := .cells #[.string ((rd_T45 l1_9 x14_1).f0), .string ((rd_T45 l1_9 x14_1).f1), .bool true] 45 (0, 0)) (by (with_reducible repeat (fail)); exact BK267.out) hg (Kd.R_ne HO_266002.out BK267.out (by decide)))
         have n4_ := Aside0.mk (hb)
         have n5_ := Aside0.mk (ho)
         clear BK263
         clear BK264
         clear BK265
         clear BK267
         clear HB
         clear HO_266002
         have BK263 := n0_
         have BK264 := n1_
         have BK265 := n2_
         have BK267 := n3_
         have HB := n4_
         have HO273 := n5_
         clear n0_ n1_ n2_ n3_ n4_ n5_
         clear ho hb hg hat
         obtain ⟨Ao27, co27, eo27⟩ := Kd.R_slice HO273.out
         (subst eo27)
         refine hK.out _ _ ⟨(blk_cell BK265.out 0).trans rfl, (blk_cell BK265.out 1).trans rfl, (blk_cell BK265.out 2).trans rfl, (blk_cell BK267.out 0).trans rfl, (blk_cell BK267.out 1).trans rfl, (blk_cell BK267.out 2).trans rfl⟩ (fun hHeld => ?_)
         clear hK K
         refine norm_ (a' := ?_) ?_ ?_
         rotate_left
         ·show Act.put _ (some 28) _ = _
          simp only [Act.put, List.setIfInBounds_toArray, List.set_cons_zero, List.set_cons_succ, i64_w, i32_w]
          rfl
         refine pure_ (i := 9) (N := some 29) (v := ?_) (a' := ?_) #[true, true, true, true, true, true, true, true, true, true, false] rfl rfl (any_of HT_.out (by kernel_rfl)) (fun _ _ _ h => h) (Or.inl ⟨by rfl, ?_⟩) ?_ ?_
         rotate_left
         ·intro w'
          go_simp
          with_reducible rfl
         rotate_left
         ·simp only [Act.put, List.setIfInBounds_toArray, List.set_cons_zero, List.set_cons_succ, i64_w, i32_w]
          rfl
         refine last_ (i := 10) (N := none) #[true, true, true, true, true, true, true, true, true, true, true] rfl rfl (one_of HT_.out (by kernel_rfl)) (by decide) (fun K hK => ?_)
         have hs28 : w26.cell? ⟨gb265, 2, none⟩ = some (u266002) := (blk_cell BK265.out 2).trans rfl
         have hfs28 := blk_frozen BK265.out 2
         have hns28_0 := NB263_265.out
         have hns28_1 := NB264_265.out
         have hns28_3 := NB267_265.out
         have hms28_0 := NB265_263.out
         have hms28_1 := NB265_264.out
         have hms28_3 := NB265_267.out
         refine skip_ (w1 := ?_) (by rfl) rfl ?_ ?_
         rotate_left
         ·go_simp
          rfl
         refine hK.out _ _ ?_
         clear hK K
         refine done_ (done_of HT_.out (by kernel_rfl)) ?_
         try go_wp2
         go_roundg k1
         case measure => have := HK1.out; omega
         case rel => exact ⟨(wrap64 (x14_1 + 1)), (y271), (.slice Ao27 y271.length co27), (by first | rfl | (simp; done) | (simp [*]; done)), H', ⟨by have := HK1.out; omega⟩, ⟨by (with_reducible repeat (first | apply Kd.R_alloc | apply Kd.R_drewN | apply Kd.R_drew)); exact Kd.R_mono (Kd.R_far (p := ⟨gb265, 2, none⟩) (Kd.R_types HO273.out BK265.out (by decide)) (fun _ hk => hk.2) (.slice Ao27 y271.length co27)) (fun _ hk => trivial)⟩, ⟨by (with_reducible repeat (fail)); refine blk_far ?_ NB263_265.out _; (with_reducible repeat (fail)); exact BK263.out⟩, ⟨by (with_reducible repeat (fail)); refine blk_far ?_ NB264_265.out _; (with_reducible repeat (fail)); exact BK264.out⟩, ⟨by (with_reducible repeat (fail)); refine blk_put (cs := #[.string (⟨#[]⟩ : ByteArray), .string a0, u266002]) ?_ 2 _ rfl; (with_reducible repeat (fail)); exact BK265.out⟩, ⟨by repeat ((with_reducible first | exact HB.out | refine below_set ?_ GE265.out ))⟩⟩
        ·rw [if_neg c17] at H
         exact absurd H (by simp)
       ·replace c15 := Bool.eq_false_iff.mpr c15
        subst c15
        have H1 : ((smxml_NewAttribute.f ((rd_T45 l1_9 x14_1).f0) ((rd_T45 l1_9 x14_1).f1)).bind fun bt274 => (if x266002_1.length < 2932031007402 then (impl_element.l0 k1 l1_9 (l1_9.length : Int) (wrap64 (x14_1 + 1)) (⟨#[]⟩ : ByteArray) a0 (x266002_1 ++ [(⟨(⟨bt274.1, bt274.2.1⟩ : S102), bt274.2.2⟩ : S172)])) else (none))) = some (r1, r2, r3) := by rw [if_neg (show ¬ (false = true) by decide)] at H; exact H
        clear H
        have H := H1
        clear H1
        replace H := Option.bind_eq_some_iff.mp H
        obtain ⟨⟨t274, t275, t276⟩, A290, H⟩ := H
        replace H : (if x266002_1.length < 2932031007402 then (impl_element.l0 k1 l1_9 (l1_9.length : Int) (wrap64 (x14_1 + 1)) (⟨#[]⟩ : ByteArray) a0 (x266002_1 ++ [(⟨(⟨t274, t275⟩ : S102), t276⟩ : S172)])) else (none)) = some (r1, r2, r3) := H
        have A29 := Aside0.mk A290
        clear A290
        by_cases c30 : x266002_1.length < 2932031007402
        ·rw [if_pos c30] at H
         have LMc30 := Aside0.mk c30
         clear c30
         obtain ⟨y277, hy277⟩ : ∃ y_ : List (S172), y_ = (x266002_1 ++ [(⟨(⟨t274, t275⟩ : S102), t276⟩ : S172)]) := ⟨_, rfl⟩
         replace H : (impl_element.l0 k1 l1_9 (l1_9.length : Int) (wrap64 (x14_1 + 1)) (⟨#[]⟩ : ByteArray) a0 y277) = some (r1, r2, r3) := by (rw [hy277]; with_reducible exact H)
         have Ny277 := Aside0.mk hy277
         clear hy277
         have H' := Aside0.mk H
         clear H
         have p266 : 0 ≤ (x14_1 : Int) := of_decide_eq_true (by first | (with_reducible assumption) | assumption)
         have q266 : x14_1 < (l1_9.length : Int) := of_decide_eq_true (by first | (with_reducible assumption) | assumption)
         obtain ⟨ad266, e266, hx266_0, hx266_1, hx266_2⟩ := at_T45 HR1_9.out x14_1 p266 q266
         (try rw [← Nbq14.out] at hx266_2)
         cases e266
         replace hx266_0 := (HB.out.cell (World.block_lt_of_cell? w _ hx266_0)).trans hx266_0
         replace hx266_1 := (HB.out.cell (World.block_lt_of_cell? w _ hx266_1)).trans hx266_1
         replace hx266_2 := (HB.out.cell (World.block_lt_of_cell? w _ hx266_2)).trans hx266_2
         replace p266 := eq_true p266
         replace q266 := eq_true q266
         try go_wp2_with (first | ((with_reducible refine gate_dst (N := 7) rfl ?_); refine box_event ?hg (N := 7) ?hd (cs := #[.string (⟨#[]⟩ : ByteArray), .string (⟨#[]⟩ : ByteArray), .bool false]) (t := 45) ?hr ?_; (case hd => rfl); (case hg => rfl); (case hr => first | (go_simp; done) | (go_simp; rfl)); intro gb267 hg w31 hbox hb; have n0_ := Aside0.mk (Kd.R_below (by (with_reducible repeat (first | apply Kd.R_alloc | apply Kd.R_drewN | apply Kd.R_drew)); exact HO_266002.out) hb); have n1_ := Aside0.mk (blk_below (g := gb263) (o := .cells #[.int .i64 a1_0, .string a1_1, .int .i64 a1_2, .slice A1_3 l1_3.length c1_3, .slice A1_4 l1_4.length c1_4, .slice A1_5 l1_5.length c1_5, .string a1_6, .string a1_7, .string a1_8, .slice (some ad266) l1_9.length c1_9] 28 (0, 0)) (by (with_reducible repeat (fail)); exact BK263.out) hb); have n2_ := Aside0.mk (blk_below (g := gb264) (o := .cells #[.string (⟨#[]⟩ : ByteArray), .string (⟨#[]⟩ : ByteArray), .slice none 0 0] 105 (0, 0)) (by (with_reducible repeat (fail)); exact BK264.out) hb); have n3_ := Aside0.mk (blk_below (g := gb265) (o := .cells #[.string (⟨#[]⟩ : ByteArray), .string a0, u266002] 105 (0, 0)) (by (with_reducible repeat (fail)); exact BK265.out) hb); have n4_ := Aside0.mk (below_step (by repeat ((with_reducible exact HB.out))) hb); have n5_ := Aside0.mk (hbox); have n6_ := Aside0.mk ((by rw [hg]; exact (below_size (by repeat ((with_reducible exact HB.out)))) : w.heap.size ≤ gb267)); have n7_ := Aside0.mk ((by rw [hg]; exact (below_size (by repeat ((with_reducible exact HB.out)))) : w.heap.size ≤ gb267)); have n8_ := Aside0.mk ((by rw [hg]; exact Nat.ne_of_lt (blk_lt (g := gb263) (o := .cells #[.int .i64 a1_0, .string a1_1, .int .i64 a1_2, .slice A1_3 l1_3.length c1_3, .slice A1_4 l1_4.length c1_4, .slice A1_5 l1_5.length c1_5, .string a1_6, .string a1_7, .string a1_8, .slice (some ad266) l1_9.length c1_9] 28 (0, 0)) (by (with_reducible repeat (fail)); exact BK263.out)) : gb263 ≠ gb267)); have n9_ := Aside0.mk ((by rw [hg]; exact Nat.ne_of_gt (blk_lt (g := gb263) (o := .cells #[.int .i64 a1_0, .string a1_1, .int .i64 a1_2, .slice A1_3 l1_3.length c1_3, .slice A1_4 l1_4.length c1_4, .slice A1_5 l1_5.length c1_5, .string a1_6, .string a1_7, .string a1_8, .slice (some ad266) l1_9.length c1_9] 28 (0, 0)) (by (with_reducible repeat (fail)); exact BK263.out)) : gb267 ≠ gb263)); have n10_ := Aside0.mk ((by rw [hg]; exact Nat.ne_of_lt (blk_lt (g := gb264) (o := .cells #[.string (⟨#[]⟩ : ByteArray), .string (⟨#[]⟩ : ByteArray), .slice none 0 0] 105 (0, 0)) (by (with_reducible repeat (fail)); exact BK264.out)) : gb264 ≠ gb267)); have n11_ := Aside0.mk ((by rw [hg]; exact Nat.ne_of_gt (blk_lt (g := gb264) (o := .cells #[.string (⟨#[]⟩ : ByteArray), .string (⟨#[]⟩ : ByteArray), .slice none 0 0] 105 (0, 0)) (by (with_reducible repeat (fail)); exact BK264.out)) : gb267 ≠ gb264)); have n12_ := Aside0.mk ((by rw [hg]; exact Nat.ne_of_lt (blk_lt (g := gb265) (o := .cells #[.string (⟨#[]⟩ : ByteArray), .string a0, u266002] 105 (0, 0)) (by (with_reducible repeat (fail)); exact BK265.out)) : gb265 ≠ gb267)); have n13_ := Aside0.mk ((by rw [hg]; exact Nat.ne_of_gt (blk_lt (g := gb265) (o := .cells #[.string (⟨#[]⟩ : ByteArray), .string a0, u266002] 105 (0, 0)) (by (with_reducible repeat (fail)); exact BK265.out)) : gb267 ≠ gb265)); clear HO_266002; clear BK263; clear BK264; clear BK265; clear HB; have HO_266002 := n0_; have BK263 := n1_; have BK264 := n2_; have BK265 := n3_; have HB := n4_; have BK267 := n5_; have GW267 := n6_; have GE267 := n7_; have NB263_267 := n8_; have NB267_263 := n9_; have NB264_267 := n10_; have NB267_264 := n11_; have NB265_267 := n12_; have NB267_265 := n13_; clear n0_ n1_ n2_ n3_ n4_ n5_ n6_ n7_ n8_ n9_ n10_ n11_ n12_ n13_; clear hb hbox hg; have hnb32 := NB267_263.out; have hnc32 := NB263_267.out; have hnb33 := NB267_264.out; have hnc33 := NB264_267.out; have hnb34 := NB267_265.out; have hnc34 := NB265_267.out; have hcz35_0 : w31.cell? ⟨gb267, 0, none⟩ = some (.string (⟨#[]⟩ : ByteArray)) := (blk_cell BK267.out 0).trans rfl; have hcz35_1 : w31.cell? ⟨gb267, 1, none⟩ = some (.string (⟨#[]⟩ : ByteArray)) := (blk_cell BK267.out 1).trans rfl; have hcz35_2 : w31.cell? ⟨gb267, 2, none⟩ = some (.bool false) := (blk_cell BK267.out 2).trans rfl; have hfz35_0 := blk_frozen BK267.out 0; have hfz35_1 := blk_frozen BK267.out 1; have hfz35_2 := blk_frozen BK267.out 2))
         have n0_ : Aside0 (Kd.R k172 172 (((w31.setCell ⟨gb267, 0, none⟩ (.string ((rd_T45 l1_9 x14_1).f0))).setCell ⟨gb267, 1, none⟩ (.string ((rd_T45 l1_9 x14_1).f1))).setCell ⟨gb267, 2, none⟩ (.bool false)) w.heap.size (fun _ => True) u266002 x266002_1) := ⟨by (with_reducible repeat (first | apply Kd.R_alloc | apply Kd.R_drewN | apply Kd.R_drew)); exact Kd.R_mono (Kd.R_far (p := ⟨gb267, 2, none⟩) (Kd.R_far (p := ⟨gb267, 1, none⟩) (Kd.R_far (p := ⟨gb267, 0, none⟩) (Kd.R_types HO_266002.out BK267.out (by decide)) (fun _ hk => hk.2) (.string ((rd_T45 l1_9 x14_1).f0))) (fun _ hk => hk.2) (.string ((rd_T45 l1_9 x14_1).f1))) (fun _ hk => hk.2) (.bool false)) (fun _ hk => trivial)⟩
         have n1_ : Aside0 ((((w31.setCell ⟨gb267, 0, none⟩ (.string ((rd_T45 l1_9 x14_1).f0))).setCell ⟨gb267, 1, none⟩ (.string ((rd_T45 l1_9 x14_1).f1))).setCell ⟨gb267, 2, none⟩ (.bool false)).heap[gb263]? = some (.cells #[.int .i64 a1_0, .string a1_1, .int .i64 a1_2, .slice A1_3 l1_3.length c1_3, .slice A1_4 l1_4.length c1_4, .slice A1_5 l1_5.length c1_5, .string a1_6, .string a1_7, .string a1_8, .slice (some ad266) l1_9.length c1_9] 28 (0, 0))) := ⟨by (with_reducible repeat (fail)); refine blk_far ?_ NB263_267.out _; (with_reducible repeat (fail)); refine blk_far ?_ NB263_267.out _; (with_reducible repeat (fail)); refine blk_far ?_ NB263_267.out _; (with_reducible repeat (fail)); exact BK263.out⟩
         have n2_ : Aside0 ((((w31.setCell ⟨gb267, 0, none⟩ (.string ((rd_T45 l1_9 x14_1).f0))).setCell ⟨gb267, 1, none⟩ (.string ((rd_T45 l1_9 x14_1).f1))).setCell ⟨gb267, 2, none⟩ (.bool false)).heap[gb264]? = some (.cells #[.string (⟨#[]⟩ : ByteArray), .string (⟨#[]⟩ : ByteArray), .slice none 0 0] 105 (0, 0))) := ⟨by (with_reducible repeat (fail)); refine blk_far ?_ NB264_267.out _; (with_reducible repeat (fail)); refine blk_far ?_ NB264_267.out _; (with_reducible repeat (fail)); refine blk_far ?_ NB264_267.out _; (with_reducible repeat (fail)); exact BK264.out⟩
         have n3_ : Aside0 ((((w31.setCell ⟨gb267, 0, none⟩ (.string ((rd_T45 l1_9 x14_1).f0))).setCell ⟨gb267, 1, none⟩ (.string ((rd_T45 l1_9 x14_1).f1))).setCell ⟨gb267, 2, none⟩ (.bool false)).heap[gb265]? = some (.cells #[.string (⟨#[]⟩ : ByteArray), .string a0, u266002] 105 (0, 0))) := ⟨by (with_reducible repeat (fail)); refine blk_far ?_ NB265_267.out _; (with_reducible repeat (fail)); refine blk_far ?_ NB265_267.out _; (with_reducible repeat (fail)); refine blk_far ?_ NB265_267.out _; (with_reducible repeat (fail)); exact BK265.out⟩
         have n4_ : Aside0 ((((w31.setCell ⟨gb267, 0, none⟩ (.string ((rd_T45 l1_9 x14_1).f0))).setCell ⟨gb267, 1, none⟩ (.string ((rd_T45 l1_9 x14_1).f1))).setCell ⟨gb267, 2, none⟩ (.bool false)).heap[gb267]? = some (.cells #[.string ((rd_T45 l1_9 x14_1).f0), .string ((rd_T45 l1_9 x14_1).f1), .bool false] 45 (0, 0))) := ⟨by (with_reducible repeat (fail)); refine blk_put (cs := #[.string ((rd_T45 l1_9 x14_1).f0), .string ((rd_T45 l1_9 x14_1).f1), .bool false]) ?_ 2 _ rfl; (with_reducible repeat (fail)); refine blk_put (cs := #[.string ((rd_T45 l1_9 x14_1).f0), .string (⟨#[]⟩ : ByteArray), .bool false]) ?_ 1 _ rfl; (with_reducible repeat (fail)); refine blk_put (cs := #[.string (⟨#[]⟩ : ByteArray), .string (⟨#[]⟩ : ByteArray), .bool false]) ?_ 0 _ rfl; (with_reducible repeat (fail)); exact BK267.out⟩
         have n5_ : Aside0 (Below w.heap.size w (((w31.setCell ⟨gb267, 0, none⟩ (.string ((rd_T45 l1_9 x14_1).f0))).setCell ⟨gb267, 1, none⟩ (.string ((rd_T45 l1_9 x14_1).f1))).setCell ⟨gb267, 2, none⟩ (.bool false))) := ⟨by repeat ((with_reducible first | exact HB.out | refine below_set ?_ GE267.out))⟩
         (try clear HO_266002)
         (try clear BK263)
         (try clear BK264)
         (try clear BK265)
         (try clear BK267)
         (try clear HB)
         generalize (((w31.setCell ⟨gb267, 0, none⟩ (.string ((rd_T45 l1_9 x14_1).f0))).setCell ⟨gb267, 1, none⟩ (.string ((rd_T45 l1_9 x14_1).f1))).setCell ⟨gb267, 2, none⟩ (.bool false)) = w36 at n0_ n1_ n2_ n3_ n4_ n5_ ⊢
         have HO_266002 := n0_
         have BK263 := n1_
         have BK264 := n2_
         have BK265 := n3_
         have BK267 := n4_
         have HB := n5_
         clear n0_ n1_ n2_ n3_ n4_ n5_
         have n0_ := Aside0.mk (Kd.R_drew HO_266002.out)
         have n1_ := Aside0.mk (blk_drew BK263.out)
         have n2_ := Aside0.mk (blk_drew BK264.out)
         have n3_ := Aside0.mk (blk_drew BK265.out)
         have n4_ := Aside0.mk (blk_drew BK267.out)
         have n5_ := Aside0.mk (below_drew1 HB.out)
         clear HO_266002
         clear BK263
         clear BK264
         clear BK265
         clear BK267
         clear HB
         have HO_266002 := n0_
         have BK263 := n1_
         have BK264 := n2_
         have BK265 := n3_
         have BK267 := n4_
         have HB := n5_
         clear n0_ n1_ n2_ n3_ n4_ n5_
         refine start_ (n := 11) (S := fun w' => w'.cell? ⟨gb265, 0, none⟩ = some (.string (⟨#[]⟩ : ByteArray)) ∧ w'.cell? ⟨gb265, 1, none⟩ = some (.string a0) ∧ w'.cell? ⟨gb265, 2, none⟩ = some (u266002) ∧ w'.cell? ⟨gb267, 0, none⟩ = some (.string ((rd_T45 l1_9 x14_1).f0)) ∧ w'.cell? ⟨gb267, 1, none⟩ = some (.string ((rd_T45 l1_9 x14_1).f1)) ∧ w'.cell? ⟨gb267, 2, none⟩ = some (.bool false)) (ds := [10]) #[false, false, false, false, false, false, false, false, false, false, false] (by kernel_rfl) rfl rfl ⟨(blk_cell BK265.out 0).trans rfl, (blk_cell BK265.out 1).trans rfl, (blk_cell BK265.out 2).trans rfl, (blk_cell BK267.out 0).trans rfl, (blk_cell BK267.out 1).trans rfl, (blk_cell BK267.out 2).trans rfl⟩ (fun hHeld => ?_); refine with_tabW impl_element.tab7 impl_element.bits7 (fun HT_ HW_ => ?_)
         generalize w36.drew = w37 at HO_266002 BK263 BK264 BK265 BK267 HB hHeld ⊢
         refine pure_ (i := 0) (N := some 30) (v := ?_) (a' := ?_) #[true, false, false, false, false, false, false, false, false, false, false] rfl rfl (any_of HT_.out (by kernel_rfl)) (fun _ _ _ h => h) (Or.inl ⟨by rfl, ?_⟩) ?_ ?_
         rotate_left
         ·intro w'
          go_simp
          with_reducible rfl
         rotate_left
         ·simp only [Act.put, List.setIfInBounds_toArray, List.set_cons_zero, List.set_cons_succ, i64_w, i32_w]
          rfl
         refine pure_ (i := 2) (N := some 32) (v := ?_) (a' := ?_) #[true, false, true, false, false, false, false, false, false, false, false] rfl rfl (any_of HT_.out (by kernel_rfl)) (fun _ _ _ h => h) (Or.inl ⟨by rfl, ?_⟩) ?_ ?_
         rotate_left
         ·intro w'
          go_simp
          with_reducible rfl
         rotate_left
         ·simp only [Act.put, List.setIfInBounds_toArray, List.set_cons_zero, List.set_cons_succ, i64_w, i32_w]
          rfl
         refine pure_ (i := 4) (N := some 34) (v := ?_) (a' := ?_) #[true, false, true, false, true, false, false, false, false, false, false] rfl rfl (any_of HT_.out (by kernel_rfl)) (fun _ _ _ h => h) (Or.inl ⟨by rfl, ?_⟩) ?_ ?_
         rotate_left
         ·intro w'
          go_simp
          with_reducible rfl
         rotate_left
         ·simp only [Act.put, List.setIfInBounds_toArray, List.set_cons_zero, List.set_cons_succ, i64_w, i32_w]
          rfl
         refine take_ (i := 1) (N := some 31) (v := ?_) (a' := ?_) #[true, true, true, false, true, false, false, false, false, false, false] rfl rfl (take_ofW HT_.out HW_.out (by kernel_rfl)) (fun _ _ _ h => h) (Or.inl ⟨by rfl, ?_⟩) hHeld ?_ ?_
         rotate_left
         ·rintro w' ⟨s0, s1, s2, s3, s4, s5⟩
          go_simp
          with_reducible rfl
         rotate_left
         ·simp only [Act.put, List.setIfInBounds_toArray, List.set_cons_zero, List.set_cons_succ, i64_w, i32_w]
          rfl
         refine take_ (i := 3) (N := some 33) (v := ?_) (a' := ?_) #[true, true, true, true, true, false, false, false, false, false, false] rfl rfl (take_ofW HT_.out HW_.out (by kernel_rfl)) (fun _ _ _ h => h) (Or.inl ⟨by rfl, ?_⟩) hHeld ?_ ?_
         rotate_left
         ·rintro w' ⟨s0, s1, s2, s3, s4, s5⟩
          go_simp
          with_reducible rfl
         rotate_left
         ·simp only [Act.put, List.setIfInBounds_toArray, List.set_cons_zero, List.set_cons_succ, i64_w, i32_w]
          rfl
         refine take_ (i := 5) (N := some 35) (v := ?_) (a' := ?_) #[true, true, true, true, true, true, false, false, false, false, false] rfl rfl (take_ofW HT_.out HW_.out (by kernel_rfl)) (fun _ _ _ h => h) (Or.inl ⟨by rfl, ?_⟩) hHeld ?_ ?_
         rotate_left
         ·rintro w' ⟨s0, s1, s2, s3, s4, s5⟩
          go_simp
          with_reducible rfl
         rotate_left
         ·simp only [Act.put, List.setIfInBounds_toArray, List.set_cons_zero, List.set_cons_succ, i64_w, i32_w]
          rfl
         refine one_ (i := 6) (N := some 36) #[true, true, true, true, true, true, true, false, false, false, false] rfl rfl (one_of HT_.out (by kernel_rfl)) (by decide) (fun K hK => ?_)
         refine goes_ Tryz.func126 (by kernel_rfl) rfl #[.string ((rd_T45 l1_9 x14_1).f0), .string ((rd_T45 l1_9 x14_1).f1)] (by rfl) rfl rfl (by (try simp only [List.map_toArray, List.map_cons, List.map_nil]); rfl) ?_
         with_reducible refine (smxml_NewAttribute.calls ((rd_T45 l1_9 x14_1).f0) ((rd_T45 l1_9 x14_1).f1) t274 t275 t276 _ A29.out).mono ?_
         rintro e w38 ⟨rfl, hb⟩
         refine ⟨_, rfl, ?_⟩
         have n0_ := Aside0.mk (Kd.R_below (by (with_reducible repeat (first | apply Kd.R_alloc | apply Kd.R_drewN | apply Kd.R_drew)); exact HO_266002.out) hb)
         have n1_ := Aside0.mk (blk_below (g := gb263) (o := .cells #[.int .i64 a1_0, .string a1_1, .int .i64 a1_2, .slice A1_3 l1_3.length c1_3, .slice A1_4 l1_4.length c1_4, .slice A1_5 l1_5.length c1_5, .string a1_6, .string a1_7, .string a1_8, .slice (some ad266) l1_9.length c1_9] 28 (0, 0)) (by (with_reducible repeat (fail)); exact BK263.out) hb)
         have n2_ := Aside0.mk (blk_below (g := gb264) (o := .cells #[.string (⟨#[]⟩ : ByteArray), .string (⟨#[]⟩ : ByteArray), .slice none 0 0] 105 (0, 0)) (by (with_reducible repeat (fail)); exact BK264.out) hb)
         have n3_ := Aside0.mk (blk_below (g := gb265) (o := .cells #[.string (⟨#[]⟩ : ByteArray), .string a0, u266002] 105 (0, 0)) (by (with_reducible repeat (fail)); exact BK265.out) hb)
         have n4_ := Aside0.mk (blk_below (g := gb267) (o := .cells #[.string ((rd_T45 l1_9 x14_1).f0), .string ((rd_T45 l1_9 x14_1).f1), .bool false] 45 (0, 0)) (by (with_reducible repeat (fail)); exact BK267.out) hb)
         have n5_ := Aside0.mk (below_step (by repeat ((with_reducible exact HB.out))) hb)
         clear HO_266002
         clear BK263
         clear BK264
         clear BK265
         clear BK267
         clear HB
         have HO_266002 := n0_
         have BK263 := n1_
         have BK264 := n2_
         have BK265 := n3_
         have BK267 := n4_
         have HB := n5_
         clear n0_ n1_ n2_ n3_ n4_ n5_
         (try clear hb)
         (try clear hb2)
         (try clear hk)
         (try clear hi)
         refine hK.out _ _ ⟨(blk_cell BK265.out 0).trans rfl, (blk_cell BK265.out 1).trans rfl, (blk_cell BK265.out 2).trans rfl, (blk_cell BK267.out 0).trans rfl, (blk_cell BK267.out 1).trans rfl, (blk_cell BK267.out 2).trans rfl⟩ (fun hHeld => ?_)
         clear hK K
         refine norm_ (a' := ?_) ?_ ?_
         rotate_left
         ·show Act.put _ (some 36) _ = _
          simp only [Act.put, List.setIfInBounds_toArray, List.set_cons_zero, List.set_cons_succ, i64_w, i32_w]
          rfl
         refine one_ (i := 7) (N := some 37) #[true, true, true, true, true, true, true, true, false, false, false] rfl rfl (one_of HT_.out (by kernel_rfl)) (by decide) (fun K hK => ?_)
         refine value_ (w1 := ?_) (v := ?_) (by rfl) rfl ?_ ?_
         rotate_left 2
         ·go_simp
          constructor
          ·rfl
          ·rfl
         refine hK.out _ _ ⟨(blk_cell (blk_alloc BK265.out _) 0).trans rfl, (blk_cell (blk_alloc BK265.out _) 1).trans rfl, (blk_cell (blk_alloc BK265.out _) 2).trans rfl, (blk_cell (blk_alloc BK267.out _) 0).trans rfl, (blk_cell (blk_alloc BK267.out _) 1).trans rfl, (blk_cell (blk_alloc BK267.out _) 2).trans rfl⟩ (fun hHeld => ?_)
         clear hK K
         refine norm_ (a' := ?_) ?_ ?_
         rotate_left
         ·show Act.put _ (some 37) _ = _
          simp only [Act.put, List.setIfInBounds_toArray, List.set_cons_zero, List.set_cons_succ, i64_w, i32_w]
          rfl
         refine one_ (i := 8) (N := some 38) #[true, true, true, true, true, true, true, true, true, false, false] rfl rfl (one_of HT_.out (by kernel_rfl)) (by decide) (fun K hK => ?_)
         refine Kd.R_append_step k172 (w0 := w) w.heap.size (by rfl) (.tmp 31) (.tmp 37) 103 172 (.agg #[(.string ⟨#[]⟩), (.string ⟨#[]⟩), (.string ⟨#[]⟩)]) 48 rfl Tryz.underlying103 info172 rfl (by decide) (by omega) u266002 x266002_1 (⟨(⟨t274, t275⟩ : S102), t276⟩ : S172) [.string t274, .string t275, .string t276] (fun _ => True) (fun _ => False) rfl rfl ?aP (fun _ hk => hk.elim) ?aF ?aO ?aB ?aS ?aL ?_
         (case aP => exact k172_mkM _ _ _ (⟨(⟨t274, t275⟩ : S102), t276⟩ : S172))
         (case aB => exact (by repeat ((with_reducible exact HB.out))))
         (case aF => exact (fun _ _ => trivial))
         (case aO => exact (by (with_reducible repeat (first | apply Kd.R_alloc | apply Kd.R_drewN | apply Kd.R_drew)); exact HO_266002.out))
         (case aS => exact (below_size (by repeat ((with_reducible exact HB.out)))))
         (case aL => have := LMc30.out; omega)
         intro v278 w39 ho hb hg hat
         rw [← Ny277.out] at ho
         have n0_ := Aside0.mk (blk_grown (g := gb263) (o := .cells #[.int .i64 a1_0, .string a1_1, .int .i64 a1_2, .slice A1_3 l1_3.length c1_3, .slice A1_4 l1_4.length c1_4, .slice A1_5 l1_5.length c1_5, .string a1_6, .string a1_7, .string a1_8, .slice (some ad266) l1_9.length c1_9] 28 (0, 0)) (by (with_reducible repeat (fail)); exact BK263.out) hg (Kd.R_ne HO_266002.out BK263.out (by decide)))
         have n1_ := Aside0.mk (blk_grown (g := gb264) (o := .cells #[.string (⟨#[]⟩ : ByteArray), .string (⟨#[]⟩ : ByteArray), .slice none 0 0] 105 (0, 0)) (by (with_reducible repeat (fail)); exact BK264.out) hg (Kd.R_ne HO_266002.out BK264.out (by decide)))
         have n2_ := Aside0.mk (blk_grown (g := gb265) (o := .cells #[.string (⟨#[]⟩ : ByteArray), .string a0, u266002] 105 (0, 0)) (by (with_reducible repeat (fail)); exact BK265.out) hg (Kd.R_ne HO_266002.out BK265.out (by decide)))
         have n3_ := Aside0.mk (blk_grown (g := gb267) (o := .cells #[.string ((rd_T45 l1_9 x14_1).f0), .string ((rd_T45 l1_9 x14_1).f1), .bool false] 45 (0, 0)) (by (with_reducible repeat (fail)); exact BK267.out) hg (Kd.R_ne HO_266002.out BK267.out (by decide)))
         have n4_ := Aside0.mk (hb)
         have n5_ := Aside0.mk (ho)
         clear BK263
         clear BK264
         clear BK265
         clear BK267
         clear HB
         clear HO_266002
         have BK263 := n0_
         have BK264 := n1_
         have BK265 := n2_
         have BK267 := n3_
         have HB := n4_
         have HO279 := n5_
         clear n0_ n1_ n2_ n3_ n4_ n5_
         clear ho hb hg hat
         obtain ⟨Ao40, co40, eo40⟩ := Kd.R_slice HO279.out
         (subst eo40)
         refine hK.out _ _ ⟨(blk_cell BK265.out 0).trans rfl, (blk_cell BK265.out 1).trans rfl, (blk_cell BK265.out 2).trans rfl, (blk_cell BK267.out 0).trans rfl, (blk_cell BK267.out 1).trans rfl, (blk_cell BK267.out 2).trans rfl⟩ (fun hHeld => ?_)
         clear hK K
         refine norm_ (a' := ?_) ?_ ?_
         rotate_left
         ·show Act.put _ (some 38) _ = _
          simp only [Act.put, List.setIfInBounds_toArray, List.set_cons_zero, List.set_cons_succ, i64_w, i32_w]
          rfl
         refine pure_ (i := 9) (N := some 39) (v := ?_) (a' := ?_) #[true, true, true, true, true, true, true, true, true, true, false] rfl rfl (any_of HT_.out (by kernel_rfl)) (fun _ _ _ h => h) (Or.inl ⟨by rfl, ?_⟩) ?_ ?_
         rotate_left
         ·intro w'
          go_simp
          with_reducible rfl
         rotate_left
         ·simp only [Act.put, List.setIfInBounds_toArray, List.set_cons_zero, List.set_cons_succ, i64_w, i32_w]
          rfl
         refine last_ (i := 10) (N := none) #[true, true, true, true, true, true, true, true, true, true, true] rfl rfl (one_of HT_.out (by kernel_rfl)) (by decide) (fun K hK => ?_)
         have hs41 : w39.cell? ⟨gb265, 2, none⟩ = some (u266002) := (blk_cell BK265.out 2).trans rfl
         have hfs41 := blk_frozen BK265.out 2
         have hns41_0 := NB263_265.out
         have hns41_1 := NB264_265.out
         have hns41_3 := NB267_265.out
         have hms41_0 := NB265_263.out
         have hms41_1 := NB265_264.out
         have hms41_3 := NB265_267.out
         refine skip_ (w1 := ?_) (by rfl) rfl ?_ ?_
         rotate_left
         ·go_simp
          rfl
         refine hK.out _ _ ?_
         clear hK K
         refine done_ (done_of HT_.out (by kernel_rfl)) ?_
         try go_wp2
         go_roundg k1
         case measure => have := HK1.out; omega
         case rel => exact ⟨(wrap64 (x14_1 + 1)), (y277), (.slice Ao40 y277.length co40), (by first | rfl | (simp; done) | (simp [*]; done)), H', ⟨by have := HK1.out; omega⟩, ⟨by (with_reducible repeat (first | apply Kd.R_alloc | apply Kd.R_drewN | apply Kd.R_drew)); exact Kd.R_mono (Kd.R_far (p := ⟨gb265, 2, none⟩) (Kd.R_types HO279.out BK265.out (by decide)) (fun _ hk => hk.2) (.slice Ao40 y277.length co40)) (fun _ hk => trivial)⟩, ⟨by (with_reducible repeat (fail)); refine blk_far ?_ NB263_265.out _; (with_reducible repeat (fail)); exact BK263.out⟩, ⟨by (with_reducible repeat (fail)); refine blk_far ?_ NB264_265.out _; (with_reducible repeat (fail)); exact BK264.out⟩, ⟨by (with_reducible repeat (fail)); refine blk_put (cs := #[.string (⟨#[]⟩ : ByteArray), .string a0, u266002]) ?_ 2 _ rfl; (with_reducible repeat (fail)); exact BK265.out⟩, ⟨by repeat ((with_reducible first | exact HB.out | refine below_set ?_ GE265.out ))⟩⟩
        ·rw [if_neg c30] at H
         exact absurd H (by simp)
      ·rw [if_neg c13] at H
       exact absurd H (by simp)
     ·rw [if_neg c12] at H
      exact absurd H (by simp)
    ·rw [if_neg c11] at H
     have c11b0 : decide (x14_1 < (l1_9.length : Int)) = false := decide_eq_false c11
     clear c11
     simp only [Option.some.injEq, Prod.mk.injEq] at H
     obtain ⟨rfl, rfl, rfl⟩ := H
     have hnb42 := NB265_263.out
     have hnc42 := NB263_265.out
     have hnb43 := NB265_264.out
     have hnc43 := NB264_265.out
     have hcz44_0 : wr.cell? ⟨gb265, 0, none⟩ = some (.string (⟨#[]⟩ : ByteArray)) := (blk_cell BK265.out 0).trans rfl
     have hcz44_1 : wr.cell? ⟨gb265, 1, none⟩ = some (.string a0) := (blk_cell BK265.out 1).trans rfl
     have hcz44_2 : wr.cell? ⟨gb265, 2, none⟩ = some (u266002) := (blk_cell BK265.out 2).trans rfl
     have hfz44_0 := blk_frozen BK265.out 0
     have hfz44_1 := blk_frozen BK265.out 1
     have hfz44_2 := blk_frozen BK265.out 2
     have hnb45 := NB264_263.out
     have hnc45 := NB263_264.out
     have hcz46_0 : wr.cell? ⟨gb264, 0, none⟩ = some (.string (⟨#[]⟩ : ByteArray)) := (blk_cell BK264.out 0).trans rfl
     have hcz46_1 : wr.cell? ⟨gb264, 1, none⟩ = some (.string (⟨#[]⟩ : ByteArray)) := (blk_cell BK264.out 1).trans rfl
     have hcz46_2 : wr.cell? ⟨gb264, 2, none⟩ = some (.slice none 0 0) := (blk_cell BK264.out 2).trans rfl
     have hfz46_0 := blk_frozen BK264.out 0
     have hfz46_1 := blk_frozen BK264.out 1
     have hfz46_2 := blk_frozen BK264.out 2
     obtain ⟨Ao47, co47, eo47⟩ := Kd.R_slice HO_266002.out
     subst eo47
     go_wp2
     refine bodyPost_ret (results_cell_row rfl _ _ gb264 105 #[.string (⟨#[]⟩ : ByteArray), .string a0, .slice Ao47 x266002_1.length co47] (0, 0) _ rfl (by (with_reducible repeat (fail)); refine blk_put (cs := #[.string (⟨#[]⟩ : ByteArray), .string a0, .slice none 0 0]) ?_ 2 _ rfl; (with_reducible repeat (fail)); refine blk_put (cs := #[.string (⟨#[]⟩ : ByteArray), .string (⟨#[]⟩ : ByteArray), .slice none 0 0]) ?_ 1 _ rfl; (with_reducible repeat (fail)); refine blk_put (cs := #[.string (⟨#[]⟩ : ByteArray), .string (⟨#[]⟩ : ByteArray), .slice none 0 0]) ?_ 0 _ rfl; (with_reducible repeat (fail)); exact BK264.out) Tryz.underlying105 rfl (by kernel_rfl)) rfl ?_
     exact ⟨_, by rfl, by (with_reducible repeat (first | apply Kd.R_alloc | apply Kd.R_drewN | apply Kd.R_drew)); exact Kd.R_mono (Kd.R_far (p := ⟨gb264, 2, none⟩) (Kd.R_far (p := ⟨gb264, 1, none⟩) (Kd.R_far (p := ⟨gb264, 0, none⟩) (Kd.R_types HO_266002.out BK264.out (by decide)) (fun _ hk => hk.2) (.string (⟨#[]⟩ : ByteArray))) (fun _ hk => hk.2) (.string a0)) (fun _ hk => hk.2) (.slice Ao47 x266002_1.length co47)) (fun _ hk => trivial), by repeat ((with_reducible first | exact HB.out | refine below_set ?_ GE264.out ))⟩

end Go.Proofs.YtkihaebaccdjdaaGreatDoor.PX
