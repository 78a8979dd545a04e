import Derived.Test.YtkihaebaccdjdaaGreatDoorX5
namespace Go.Proofs.YtkihaebaccdjdaaGreatDoor.PX
open Go.RowKit Go.Proofs.YtkihaebaccdjdaaGreatDoorW.PrintWords Go.Proofs.YtkihaebaccdjdaaGreatDoorW.PrintLast Go.Proofs.YtkihaebaccdjdaaGreatDoorW.PrintMore
attribute [local go_sem] max2_int min2_int max_two min_two max_three min_three max_four min_four   -- for this text's walks alone
set_option linter.unusedVariables false
set_option linter.unusedSimpArgs false

/-! ### spec_hasLists: function 57 -/
def spec_hasLists.l0 : Nat → List (S28) → Int → Int → Option (Bool)
 | 0, _, _, _ => none
 | k + 1, x6, x7, x8 => if x8 < x7 then (if 0 ≤ x8 then (if x8 < (x6.length : Int) then (if ((rd_T28 x6 x8).f0) = 8 then (some true) else (if ((rd_T28 x6 x8).f0) = 9 then (some true) else (spec_hasLists.l0 k x6 x7 (wrap64 (x8 + 1))))) else (none)) else (none)) else (some false)
def spec_hasLists.f (k : Nat) (a0_0 : Int) (a0_1 : ByteArray) (a0_2 : Int) (l0_3 : List ByteArray) (l0_4 : List (S28)) (l0_5 : List Bool) (a0_6 : ByteArray) (a0_7 : ByteArray) (a0_8 : ByteArray) (l0_9 : List (S45)) : Option (Bool) := spec_hasLists.l0 k l0_4 (l0_4.length : Int) 0
set_option maxHeartbeats 8000000 in
set_option maxRecDepth 100000 in
theorem spec_hasLists.calls (k : Nat) (a0_0 : Int) (a0_1 : ByteArray) (a0_2 : Int) (A0_3 : Option Addr) (c0_3 : Nat) (l0_3 : List ByteArray) (A0_4 : Option Addr) (c0_4 : Nat) (l0_4 : List (S28)) (A0_5 : Option Addr) (c0_5 : Nat) (l0_5 : List Bool) (a0_6 : ByteArray) (a0_7 : ByteArray) (a0_8 : ByteArray) (A0_9 : Option Addr) (c0_9 : Nat) (l0_9 : List (S45)) (r : Bool) (w : World) (hr0_3 : Kd.C Kd.string w A0_3 l0_3.length l0_3) (hc0_3 : l0_3.length ≤ c0_3) (hr0_4 : Kd.C k28 w A0_4 l0_4.length l0_4) (hc0_4 : l0_4.length ≤ c0_4) (hr0_5 : Kd.C Kd.bool w A0_5 l0_5.length l0_5) (hc0_5 : l0_5.length ≤ c0_5) (hr0_9 : Kd.C k45 w A0_9 l0_9.length l0_9) (hc0_9 : l0_9.length ≤ c0_9) (h : spec_hasLists.f k a0_0 a0_1 a0_2 l0_3 l0_4 l0_5 a0_6 a0_7 a0_8 l0_9 = some r) :
 Calls Tryz.prog 57 #[.agg #[.int .i64 a0_0, .string a0_1, .int .i64 a0_2, .slice A0_3 l0_3.length c0_3, .slice A0_4 l0_4.length c0_4, .slice A0_5 l0_5.length c0_5, .string a0_6, .string a0_7, .string a0_8, .slice A0_9 l0_9.length c0_9]] w fun e w' => e = .returned (.bool r) ∧ Below w.heap.size w w' := by
 have hu28 := Tryz.underlying28
 have HR0_3 := Aside0.mk hr0_3
 have HC0_3 := Aside0.mk hc0_3
 clear hr0_3 hc0_3
 have HR0_4 := Aside0.mk hr0_4
 have HC0_4 := Aside0.mk hc0_4
 clear hr0_4 hc0_4
 have HR0_5 := Aside0.mk hr0_5
 have HC0_5 := Aside0.mk hc0_5
 clear hr0_5 hc0_5
 have HR0_9 := Aside0.mk hr0_9
 have HC0_9 := Aside0.mk hc0_9
 clear hr0_9 hc0_9
 have HB := Aside0.mk (Below.refl w.heap.size w)
 have H : (spec_hasLists.l0 k l0_4 (l0_4.length : Int) 0) = some r := h
 clear h
 have H' := Aside0.mk H
 clear H
 go_enter Tryz.func57, Tryz.ntmps57
 go_wp2_with (first | ((with_reducible refine gate_dst (N := 1) rfl ?_); refine box_event ?hg (N := 1) ?hd (cs := #[.int .i64 a0_0, .string a0_1, .int .i64 a0_2, .slice A0_3 l0_3.length c0_3, .slice A0_4 l0_4.length c0_4, .slice A0_5 l0_5.length c0_5, .string a0_6, .string a0_7, .string a0_8, .slice A0_9 l0_9.length c0_9]) (t := 28) ?hr ?_; (case hd => rfl); (case hg => rfl); (case hr => first | (go_simp; done) | (go_simp; rfl)); intro gb469 hg w2 hbox hb; have n0_ := Aside0.mk (below_step (by repeat ((with_reducible exact HB.out))) hb); have n1_ := Aside0.mk (hbox); have n2_ := Aside0.mk ((by rw [hg]; exact (below_size (by repeat ((with_reducible exact HB.out)))) : w.heap.size ≤ gb469)); have n3_ := Aside0.mk ((by rw [hg]; exact (below_size (by repeat ((with_reducible exact HB.out)))) : w.heap.size ≤ gb469)); clear HB; have HB := n0_; have BK469 := n1_; have GW469 := n2_; have GE469 := n3_; clear n0_ n1_ n2_ n3_; clear hb hbox hg; have hcz3_0 : w2.cell? ⟨gb469, 0, none⟩ = some (.int .i64 a0_0) := (blk_cell BK469.out 0).trans rfl; have hcz3_1 : w2.cell? ⟨gb469, 1, none⟩ = some (.string a0_1) := (blk_cell BK469.out 1).trans rfl; have hcz3_2 : w2.cell? ⟨gb469, 2, none⟩ = some (.int .i64 a0_2) := (blk_cell BK469.out 2).trans rfl; have hcz3_3 : w2.cell? ⟨gb469, 3, none⟩ = some (.slice A0_3 l0_3.length c0_3) := (blk_cell BK469.out 3).trans rfl; have hcz3_4 : w2.cell? ⟨gb469, 4, none⟩ = some (.slice A0_4 l0_4.length c0_4) := (blk_cell BK469.out 4).trans rfl; have hcz3_5 : w2.cell? ⟨gb469, 5, none⟩ = some (.slice A0_5 l0_5.length c0_5) := (blk_cell BK469.out 5).trans rfl; have hcz3_6 : w2.cell? ⟨gb469, 6, none⟩ = some (.string a0_6) := (blk_cell BK469.out 6).trans rfl; have hcz3_7 : w2.cell? ⟨gb469, 7, none⟩ = some (.string a0_7) := (blk_cell BK469.out 7).trans rfl; have hcz3_8 : w2.cell? ⟨gb469, 8, none⟩ = some (.string a0_8) := (blk_cell BK469.out 8).trans rfl; have hcz3_9 : w2.cell? ⟨gb469, 9, none⟩ = some (.slice A0_9 l0_9.length c0_9) := (blk_cell BK469.out 9).trans rfl; have hfz3_0 := blk_frozen BK469.out 0; have hfz3_1 := blk_frozen BK469.out 1; have hfz3_2 := blk_frozen BK469.out 2; have hfz3_3 := blk_frozen BK469.out 3; have hfz3_4 := blk_frozen BK469.out 4; have hfz3_5 := blk_frozen BK469.out 5; have hfz3_6 := blk_frozen BK469.out 6; have hfz3_7 := blk_frozen BK469.out 7; have hfz3_8 := blk_frozen BK469.out 8; have hfz3_9 := blk_frozen BK469.out 9))
 go_loopg [8] k (fun kq v8 w' => ∃ (x8_1 : Int), v8 = .int .i64 x8_1 ∧ Aside0 (spec_hasLists.l0 kq l0_4 (l0_4.length : Int) x8_1 = some r) ∧ Aside0 (kq ≤ k) ∧ Aside0 (w'.heap[gb469]? = some (.cells #[.int .i64 a0_0, .string a0_1, .int .i64 a0_2, (.slice A0_3 l0_3.length c0_3), (.slice A0_4 l0_4.length c0_4), (.slice A0_5 l0_5.length c0_5), .string a0_6, .string a0_7, .string a0_8, (.slice A0_9 l0_9.length c0_9)] 28 (0, 0))) ∧ Aside0 (Below w.heap.size w w'))
 case atStart => exact ⟨(0), (by first | rfl | (simp; done) | (simp [*]; done)), H', ⟨Nat.le_refl _⟩, ⟨by (with_reducible repeat (fail)); exact BK469.out⟩, ⟨by repeat ((with_reducible exact HB.out))⟩⟩
 case round =>
  clear H'
  try clear p2
  try clear hcz3_0
  try clear hcz3_1
  try clear hcz3_2
  try clear hcz3_3
  try clear hcz3_4
  try clear hcz3_5
  try clear hcz3_6
  try clear hcz3_7
  try clear hcz3_8
  try clear hcz3_9
  try clear hfz3_0
  try clear hfz3_1
  try clear hfz3_2
  try clear hfz3_3
  try clear hfz3_4
  try clear hfz3_5
  try clear hfz3_6
  try clear hfz3_7
  try clear hfz3_8
  try clear hfz3_9
  obtain ⟨x8_1, rfl, HA, HK1, BK469, HB⟩ := hrel
  cases gk with
  | zero => exact absurd HA.out (by simp [spec_hasLists.l0])
  | succ k1 =>
    have H := HA.out
    clear HA
    simp only [spec_hasLists.l0] at H
    by_cases c4 : x8_1 < (l0_4.length : Int)
    ·rw [if_pos c4] at H
     have c4b0 : decide (x8_1 < (l0_4.length : Int)) = true := decide_eq_true c4
     clear c4
     by_cases c5 : 0 ≤ x8_1
     ·rw [if_pos c5] at H
      have c5b0 : decide (0 ≤ x8_1) = true := decide_eq_true c5
      clear c5
      by_cases c6 : x8_1 < (l0_4.length : Int)
      ·rw [if_pos c6] at H
       have c6b0 : decide (x8_1 < (l0_4.length : Int)) = true := decide_eq_true c6
       clear c6
       by_cases c7 : ((rd_T28 l0_4 x8_1).f0) = 8
       ·rw [if_pos c7] at H
        have c7b0 : (((rd_T28 l0_4 x8_1).f0) == 8) = true := beq_iff_eq.mpr c7
        have c7b1 : (((rd_T28 l0_4 x8_1).f0) != 8) = false := bne_eq_false_iff_eq.mpr c7
        clear c7
        obtain rfl := Option.some.inj H
        have p470 : 0 ≤ (x8_1 : Int) := of_decide_eq_true (by first | (with_reducible assumption) | assumption)
        have q470 : x8_1 < (l0_4.length : Int) := of_decide_eq_true (by first | (with_reducible assumption) | assumption)
        obtain ⟨ad470, A470_3, c470_3, A470_4, c470_4, A470_5, c470_5, A470_9, c470_9, e470, hx470_0, hx470_1, hx470_2, hx470_3, hx470_4, hx470_5, hx470_6, hx470_7, hx470_8, hx470_9, hl470_3, hi470_3, hl470_4, hi470_4, hl470_5, hi470_5, hl470_9, hi470_9⟩ := at_T28 HR0_4.out x8_1 p470 q470
        cases e470
        replace hx470_0 := (HB.out.cell (World.block_lt_of_cell? w _ hx470_0)).trans hx470_0
        replace hx470_1 := (HB.out.cell (World.block_lt_of_cell? w _ hx470_1)).trans hx470_1
        replace hx470_2 := (HB.out.cell (World.block_lt_of_cell? w _ hx470_2)).trans hx470_2
        replace hx470_3 := (HB.out.cell (World.block_lt_of_cell? w _ hx470_3)).trans hx470_3
        replace hx470_4 := (HB.out.cell (World.block_lt_of_cell? w _ hx470_4)).trans hx470_4
        replace hx470_5 := (HB.out.cell (World.block_lt_of_cell? w _ hx470_5)).trans hx470_5
        replace hx470_6 := (HB.out.cell (World.block_lt_of_cell? w _ hx470_6)).trans hx470_6
        replace hx470_7 := (HB.out.cell (World.block_lt_of_cell? w _ hx470_7)).trans hx470_7
        replace hx470_8 := (HB.out.cell (World.block_lt_of_cell? w _ hx470_8)).trans hx470_8
        replace hx470_9 := (HB.out.cell (World.block_lt_of_cell? w _ hx470_9)).trans hx470_9
        have HR470_3 := Aside0.mk hi470_3
        have HC470_3 := Aside0.mk hl470_3
        clear hi470_3 hl470_3
        have HR470_4 := Aside0.mk hi470_4
        have HC470_4 := Aside0.mk hl470_4
        clear hi470_4 hl470_4
        have HR470_5 := Aside0.mk hi470_5
        have HC470_5 := Aside0.mk hl470_5
        clear hi470_5 hl470_5
        have HR470_9 := Aside0.mk hi470_9
        have HC470_9 := Aside0.mk hl470_9
        clear hi470_9 hl470_9
        replace p470 := eq_true p470
        replace q470 := eq_true q470
        go_wp2_with (first | ((with_reducible refine gate_dst (N := 4) rfl ?_); refine box_event ?hg (N := 4) ?hd (cs := #[.int .i64 0, .string (⟨#[]⟩ : ByteArray), .int .i64 0, .slice none 0 0, .slice none 0 0, .slice none 0 0, .string (⟨#[]⟩ : ByteArray), .string (⟨#[]⟩ : ByteArray), .string (⟨#[]⟩ : ByteArray), .slice none 0 0]) (t := 28) ?hr ?_; (case hd => rfl); (case hg => rfl); (case hr => first | (go_simp; done) | (go_simp; rfl)); intro gb471 hg w8 hbox hb; have n0_ := Aside0.mk (blk_below (g := gb469) (o := .cells #[.int .i64 a0_0, .string a0_1, .int .i64 a0_2, .slice A0_3 l0_3.length c0_3, .slice (some ad470) l0_4.length c0_4, .slice A0_5 l0_5.length c0_5, .string a0_6, .string a0_7, .string a0_8, .slice A0_9 l0_9.length c0_9] 28 (0, 0)) (by (with_reducible repeat (fail)); exact BK469.out) hb); have n1_ := Aside0.mk (below_step (by repeat ((with_reducible exact HB.out))) hb); have n2_ := Aside0.mk (hbox); have n3_ := Aside0.mk ((by rw [hg]; exact (below_size (by repeat ((with_reducible exact HB.out)))) : w.heap.size ≤ gb471)); have n4_ := Aside0.mk ((by rw [hg]; exact (below_size (by repeat ((with_reducible exact HB.out)))) : w.heap.size ≤ gb471)); have n5_ := Aside0.mk ((by rw [hg]; exact Nat.ne_of_lt (blk_lt (g := gb469) (o := .cells #[.int .i64 a0_0, .string a0_1, .int .i64 a0_2, .slice A0_3 l0_3.length c0_3, .slice (some ad470) l0_4.length c0_4, .slice A0_5 l0_5.length c0_5, .string a0_6, .string a0_7, .string a0_8, .slice A0_9 l0_9.length c0_9] 28 (0, 0)) (by (with_reducible repeat (fail)); exact BK469.out)) : gb469 ≠ gb471)); have n6_ := Aside0.mk ((by rw [hg]; exact Nat.ne_of_gt (blk_lt (g := gb469) (o := .cells #[.int .i64 a0_0, .string a0_1, .int .i64 a0_2, .slice A0_3 l0_3.length c0_3, .slice (some ad470) l0_4.length c0_4, .slice A0_5 l0_5.length c0_5, .string a0_6, .string a0_7, .string a0_8, .slice A0_9 l0_9.length c0_9] 28 (0, 0)) (by (with_reducible repeat (fail)); exact BK469.out)) : gb471 ≠ gb469)); clear BK469; clear HB; have BK469 := n0_; have HB := n1_; have BK471 := n2_; have GW471 := n3_; have GE471 := n4_; have NB469_471 := n5_; have NB471_469 := n6_; clear n0_ n1_ n2_ n3_ n4_ n5_ n6_; clear hb hbox hg; have hnb9 := NB471_469.out; have hnc9 := NB469_471.out; have hcz10_0 : w8.cell? ⟨gb471, 0, none⟩ = some (.int .i64 0) := (blk_cell BK471.out 0).trans rfl; have hcz10_1 : w8.cell? ⟨gb471, 1, none⟩ = some (.string (⟨#[]⟩ : ByteArray)) := (blk_cell BK471.out 1).trans rfl; have hcz10_2 : w8.cell? ⟨gb471, 2, none⟩ = some (.int .i64 0) := (blk_cell BK471.out 2).trans rfl; have hcz10_3 : w8.cell? ⟨gb471, 3, none⟩ = some (.slice none 0 0) := (blk_cell BK471.out 3).trans rfl; have hcz10_4 : w8.cell? ⟨gb471, 4, none⟩ = some (.slice none 0 0) := (blk_cell BK471.out 4).trans rfl; have hcz10_5 : w8.cell? ⟨gb471, 5, none⟩ = some (.slice none 0 0) := (blk_cell BK471.out 5).trans rfl; have hcz10_6 : w8.cell? ⟨gb471, 6, none⟩ = some (.string (⟨#[]⟩ : ByteArray)) := (blk_cell BK471.out 6).trans rfl; have hcz10_7 : w8.cell? ⟨gb471, 7, none⟩ = some (.string (⟨#[]⟩ : ByteArray)) := (blk_cell BK471.out 7).trans rfl; have hcz10_8 : w8.cell? ⟨gb471, 8, none⟩ = some (.string (⟨#[]⟩ : ByteArray)) := (blk_cell BK471.out 8).trans rfl; have hcz10_9 : w8.cell? ⟨gb471, 9, none⟩ = some (.slice none 0 0) := (blk_cell BK471.out 9).trans rfl; have hfz10_0 := blk_frozen BK471.out 0; have hfz10_1 := blk_frozen BK471.out 1; have hfz10_2 := blk_frozen BK471.out 2; have hfz10_3 := blk_frozen BK471.out 3; have hfz10_4 := blk_frozen BK471.out 4; have hfz10_5 := blk_frozen BK471.out 5; have hfz10_6 := blk_frozen BK471.out 6; have hfz10_7 := blk_frozen BK471.out 7; have hfz10_8 := blk_frozen BK471.out 8; have hfz10_9 := blk_frozen BK471.out 9))
        go_ret
        exact ⟨by rfl, by repeat ((with_reducible first | exact HB.out | refine below_set ?_ GE471.out))⟩
       ·rw [if_neg c7] at H
        have c7b0 : (((rd_T28 l0_4 x8_1).f0) == 8) = false := beq_eq_false_iff_ne.mpr c7
        have c7b1 : (((rd_T28 l0_4 x8_1).f0) != 8) = true := bne_iff_ne.mpr c7
        by_cases c11 : ((rd_T28 l0_4 x8_1).f0) = 9
        ·rw [if_pos c11] at H
         have c11b0 : (((rd_T28 l0_4 x8_1).f0) == 9) = true := beq_iff_eq.mpr c11
         have c11b1 : (((rd_T28 l0_4 x8_1).f0) != 9) = false := bne_eq_false_iff_eq.mpr c11
         clear c11
         obtain rfl := Option.some.inj H
         have p470 : 0 ≤ (x8_1 : Int) := of_decide_eq_true (by first | (with_reducible assumption) | assumption)
         have q470 : x8_1 < (l0_4.length : Int) := of_decide_eq_true (by first | (with_reducible assumption) | assumption)
         obtain ⟨ad470, A470_3, c470_3, A470_4, c470_4, A470_5, c470_5, A470_9, c470_9, e470, hx470_0, hx470_1, hx470_2, hx470_3, hx470_4, hx470_5, hx470_6, hx470_7, hx470_8, hx470_9, hl470_3, hi470_3, hl470_4, hi470_4, hl470_5, hi470_5, hl470_9, hi470_9⟩ := at_T28 HR0_4.out x8_1 p470 q470
         cases e470
         replace hx470_0 := (HB.out.cell (World.block_lt_of_cell? w _ hx470_0)).trans hx470_0
         replace hx470_1 := (HB.out.cell (World.block_lt_of_cell? w _ hx470_1)).trans hx470_1
         replace hx470_2 := (HB.out.cell (World.block_lt_of_cell? w _ hx470_2)).trans hx470_2
         replace hx470_3 := (HB.out.cell (World.block_lt_of_cell? w _ hx470_3)).trans hx470_3
         replace hx470_4 := (HB.out.cell (World.block_lt_of_cell? w _ hx470_4)).trans hx470_4
         replace hx470_5 := (HB.out.cell (World.block_lt_of_cell? w _ hx470_5)).trans hx470_5
         replace hx470_6 := (HB.out.cell (World.block_lt_of_cell? w _ hx470_6)).trans hx470_6
         replace hx470_7 := (HB.out.cell (World.block_lt_of_cell? w _ hx470_7)).trans hx470_7
         replace hx470_8 := (HB.out.cell (World.block_lt_of_cell? w _ hx470_8)).trans hx470_8
         replace hx470_9 := (HB.out.cell (World.block_lt_of_cell? w _ hx470_9)).trans hx470_9
         have HR470_3 := Aside0.mk hi470_3
         have HC470_3 := Aside0.mk hl470_3
         clear hi470_3 hl470_3
         have HR470_4 := Aside0.mk hi470_4
         have HC470_4 := Aside0.mk hl470_4
         clear hi470_4 hl470_4
         have HR470_5 := Aside0.mk hi470_5
         have HC470_5 := Aside0.mk hl470_5
         clear hi470_5 hl470_5
         have HR470_9 := Aside0.mk hi470_9
         have HC470_9 := Aside0.mk hl470_9
         clear hi470_9 hl470_9
         replace p470 := eq_true p470
         replace q470 := eq_true q470
         go_wp2_with (first | ((with_reducible refine gate_dst (N := 4) rfl ?_); refine box_event ?hg (N := 4) ?hd (cs := #[.int .i64 0, .string (⟨#[]⟩ : ByteArray), .int .i64 0, .slice none 0 0, .slice none 0 0, .slice none 0 0, .string (⟨#[]⟩ : ByteArray), .string (⟨#[]⟩ : ByteArray), .string (⟨#[]⟩ : ByteArray), .slice none 0 0]) (t := 28) ?hr ?_; (case hd => rfl); (case hg => rfl); (case hr => first | (go_simp; done) | (go_simp; rfl)); intro gb471 hg w12 hbox hb; have n0_ := Aside0.mk (blk_below (g := gb469) (o := .cells #[.int .i64 a0_0, .string a0_1, .int .i64 a0_2, .slice A0_3 l0_3.length c0_3, .slice (some ad470) l0_4.length c0_4, .slice A0_5 l0_5.length c0_5, .string a0_6, .string a0_7, .string a0_8, .slice A0_9 l0_9.length c0_9] 28 (0, 0)) (by (with_reducible repeat (fail)); exact BK469.out) hb); have n1_ := Aside0.mk (below_step (by repeat ((with_reducible exact HB.out))) hb); have n2_ := Aside0.mk (hbox); have n3_ := Aside0.mk ((by rw [hg]; exact (below_size (by repeat ((with_reducible exact HB.out)))) : w.heap.size ≤ gb471)); have n4_ := Aside0.mk ((by rw [hg]; exact (below_size (by repeat ((with_reducible exact HB.out)))) : w.heap.size ≤ gb471)); have n5_ := Aside0.mk ((by rw [hg]; exact Nat.ne_of_lt (blk_lt (g := gb469) (o := .cells #[.int .i64 a0_0, .string a0_1, .int .i64 a0_2, .slice A0_3 l0_3.length c0_3, .slice (some ad470) l0_4.length c0_4, .slice A0_5 l0_5.length c0_5, .string a0_6, .string a0_7, .string a0_8, .slice A0_9 l0_9.length c0_9] 28 (0, 0)) (by (with_reducible repeat (fail)); exact BK469.out)) : gb469 ≠ gb471)); have n6_ := Aside0.mk ((by rw [hg]; exact Nat.ne_of_gt (blk_lt (g := gb469) (o := .cells #[.int .i64 a0_0, .string a0_1, .int .i64 a0_2, .slice A0_3 l0_3.length c0_3, .slice (some ad470) l0_4.length c0_4, .slice A0_5 l0_5.length c0_5, .string a0_6, .string a0_7, .string a0_8, .slice A0_9 l0_9.length c0_9] 28 (0, 0)) (by (with_reducible repeat (fail)); exact BK469.out)) : gb471 ≠ gb469)); clear BK469; clear HB; have BK469 := n0_; have HB := n1_; have BK471 := n2_; have GW471 := n3_; have GE471 := n4_; have NB469_471 := n5_; have NB471_469 := n6_; clear n0_ n1_ n2_ n3_ n4_ n5_ n6_; clear hb hbox hg; have hnb13 := NB471_469.out; have hnc13 := NB469_471.out; have hcz14_0 : w12.cell? ⟨gb471, 0, none⟩ = some (.int .i64 0) := (blk_cell BK471.out 0).trans rfl; have hcz14_1 : w12.cell? ⟨gb471, 1, none⟩ = some (.string (⟨#[]⟩ : ByteArray)) := (blk_cell BK471.out 1).trans rfl; have hcz14_2 : w12.cell? ⟨gb471, 2, none⟩ = some (.int .i64 0) := (blk_cell BK471.out 2).trans rfl; have hcz14_3 : w12.cell? ⟨gb471, 3, none⟩ = some (.slice none 0 0) := (blk_cell BK471.out 3).trans rfl; have hcz14_4 : w12.cell? ⟨gb471, 4, none⟩ = some (.slice none 0 0) := (blk_cell BK471.out 4).trans rfl; have hcz14_5 : w12.cell? ⟨gb471, 5, none⟩ = some (.slice none 0 0) := (blk_cell BK471.out 5).trans rfl; have hcz14_6 : w12.cell? ⟨gb471, 6, none⟩ = some (.string (⟨#[]⟩ : ByteArray)) := (blk_cell BK471.out 6).trans rfl; have hcz14_7 : w12.cell? ⟨gb471, 7, none⟩ = some (.string (⟨#[]⟩ : ByteArray)) := (blk_cell BK471.out 7).trans rfl; have hcz14_8 : w12.cell? ⟨gb471, 8, none⟩ = some (.string (⟨#[]⟩ : ByteArray)) := (blk_cell BK471.out 8).trans rfl; have hcz14_9 : w12.cell? ⟨gb471, 9, none⟩ = some (.slice none 0 0) := (blk_cell BK471.out 9).trans rfl; have hfz14_0 := blk_frozen BK471.out 0; have hfz14_1 := blk_frozen BK471.out 1; have hfz14_2 := blk_frozen BK471.out 2; have hfz14_3 := blk_frozen BK471.out 3; have hfz14_4 := blk_frozen BK471.out 4; have hfz14_5 := blk_frozen BK471.out 5; have hfz14_6 := blk_frozen BK471.out 6; have hfz14_7 := blk_frozen BK471.out 7; have hfz14_8 := blk_frozen BK471.out 8; have hfz14_9 := blk_frozen BK471.out 9))
         go_ret
         exact ⟨by rfl, by repeat ((with_reducible first | exact HB.out | refine below_set ?_ GE471.out))⟩
        ·rw [if_neg c11] at H
         have c11b0 : (((rd_T28 l0_4 x8_1).f0) == 9) = false := beq_eq_false_iff_ne.mpr c11
         have c11b1 : (((rd_T28 l0_4 x8_1).f0) != 9) = true := bne_iff_ne.mpr c11
         have H' := Aside0.mk H
         clear H
         have p470 : 0 ≤ (x8_1 : Int) := of_decide_eq_true (by first | (with_reducible assumption) | assumption)
         have q470 : x8_1 < (l0_4.length : Int) := of_decide_eq_true (by first | (with_reducible assumption) | assumption)
         obtain ⟨ad470, A470_3, c470_3, A470_4, c470_4, A470_5, c470_5, A470_9, c470_9, e470, hx470_0, hx470_1, hx470_2, hx470_3, hx470_4, hx470_5, hx470_6, hx470_7, hx470_8, hx470_9, hl470_3, hi470_3, hl470_4, hi470_4, hl470_5, hi470_5, hl470_9, hi470_9⟩ := at_T28 HR0_4.out x8_1 p470 q470
         cases e470
         replace hx470_0 := (HB.out.cell (World.block_lt_of_cell? w _ hx470_0)).trans hx470_0
         replace hx470_1 := (HB.out.cell (World.block_lt_of_cell? w _ hx470_1)).trans hx470_1
         replace hx470_2 := (HB.out.cell (World.block_lt_of_cell? w _ hx470_2)).trans hx470_2
         replace hx470_3 := (HB.out.cell (World.block_lt_of_cell? w _ hx470_3)).trans hx470_3
         replace hx470_4 := (HB.out.cell (World.block_lt_of_cell? w _ hx470_4)).trans hx470_4
         replace hx470_5 := (HB.out.cell (World.block_lt_of_cell? w _ hx470_5)).trans hx470_5
         replace hx470_6 := (HB.out.cell (World.block_lt_of_cell? w _ hx470_6)).trans hx470_6
         replace hx470_7 := (HB.out.cell (World.block_lt_of_cell? w _ hx470_7)).trans hx470_7
         replace hx470_8 := (HB.out.cell (World.block_lt_of_cell? w _ hx470_8)).trans hx470_8
         replace hx470_9 := (HB.out.cell (World.block_lt_of_cell? w _ hx470_9)).trans hx470_9
         have HR470_3 := Aside0.mk hi470_3
         have HC470_3 := Aside0.mk hl470_3
         clear hi470_3 hl470_3
         have HR470_4 := Aside0.mk hi470_4
         have HC470_4 := Aside0.mk hl470_4
         clear hi470_4 hl470_4
         have HR470_5 := Aside0.mk hi470_5
         have HC470_5 := Aside0.mk hl470_5
         clear hi470_5 hl470_5
         have HR470_9 := Aside0.mk hi470_9
         have HC470_9 := Aside0.mk hl470_9
         clear hi470_9 hl470_9
         replace p470 := eq_true p470
         replace q470 := eq_true q470
         go_wp2_with (first | ((with_reducible refine gate_dst (N := 4) rfl ?_); refine box_event ?hg (N := 4) ?hd (cs := #[.int .i64 0, .string (⟨#[]⟩ : ByteArray), .int .i64 0, .slice none 0 0, .slice none 0 0, .slice none 0 0, .string (⟨#[]⟩ : ByteArray), .string (⟨#[]⟩ : ByteArray), .string (⟨#[]⟩ : ByteArray), .slice none 0 0]) (t := 28) ?hr ?_; (case hd => rfl); (case hg => rfl); (case hr => first | (go_simp; done) | (go_simp; rfl)); intro gb471 hg w15 hbox hb; have n0_ := Aside0.mk (blk_below (g := gb469) (o := .cells #[.int .i64 a0_0, .string a0_1, .int .i64 a0_2, .slice A0_3 l0_3.length c0_3, .slice (some ad470) l0_4.length c0_4, .slice A0_5 l0_5.length c0_5, .string a0_6, .string a0_7, .string a0_8, .slice A0_9 l0_9.length c0_9] 28 (0, 0)) (by (with_reducible repeat (fail)); exact BK469.out) hb); have n1_ := Aside0.mk (below_step (by repeat ((with_reducible exact HB.out))) hb); have n2_ := Aside0.mk (hbox); have n3_ := Aside0.mk ((by rw [hg]; exact (below_size (by repeat ((with_reducible exact HB.out)))) : w.heap.size ≤ gb471)); have n4_ := Aside0.mk ((by rw [hg]; exact (below_size (by repeat ((with_reducible exact HB.out)))) : w.heap.size ≤ gb471)); have n5_ := Aside0.mk ((by rw [hg]; exact Nat.ne_of_lt (blk_lt (g := gb469) (o := .cells #[.int .i64 a0_0, .string a0_1, .int .i64 a0_2, .slice A0_3 l0_3.length c0_3, .slice (some ad470) l0_4.length c0_4, .slice A0_5 l0_5.length c0_5, .string a0_6, .string a0_7, .string a0_8, .slice A0_9 l0_9.length c0_9] 28 (0, 0)) (by (with_reducible repeat (fail)); exact BK469.out)) : gb469 ≠ gb471)); have n6_ := Aside0.mk ((by rw [hg]; exact Nat.ne_of_gt (blk_lt (g := gb469) (o := .cells #[.int .i64 a0_0, .string a0_1, .int .i64 a0_2, .slice A0_3 l0_3.length c0_3, .slice (some ad470) l0_4.length c0_4, .slice A0_5 l0_5.length c0_5, .string a0_6, .string a0_7, .string a0_8, .slice A0_9 l0_9.length c0_9] 28 (0, 0)) (by (with_reducible repeat (fail)); exact BK469.out)) : gb471 ≠ gb469)); clear BK469; clear HB; have BK469 := n0_; have HB := n1_; have BK471 := n2_; have GW471 := n3_; have GE471 := n4_; have NB469_471 := n5_; have NB471_469 := n6_; clear n0_ n1_ n2_ n3_ n4_ n5_ n6_; clear hb hbox hg; have hnb16 := NB471_469.out; have hnc16 := NB469_471.out; have hcz17_0 : w15.cell? ⟨gb471, 0, none⟩ = some (.int .i64 0) := (blk_cell BK471.out 0).trans rfl; have hcz17_1 : w15.cell? ⟨gb471, 1, none⟩ = some (.string (⟨#[]⟩ : ByteArray)) := (blk_cell BK471.out 1).trans rfl; have hcz17_2 : w15.cell? ⟨gb471, 2, none⟩ = some (.int .i64 0) := (blk_cell BK471.out 2).trans rfl; have hcz17_3 : w15.cell? ⟨gb471, 3, none⟩ = some (.slice none 0 0) := (blk_cell BK471.out 3).trans rfl; have hcz17_4 : w15.cell? ⟨gb471, 4, none⟩ = some (.slice none 0 0) := (blk_cell BK471.out 4).trans rfl; have hcz17_5 : w15.cell? ⟨gb471, 5, none⟩ = some (.slice none 0 0) := (blk_cell BK471.out 5).trans rfl; have hcz17_6 : w15.cell? ⟨gb471, 6, none⟩ = some (.string (⟨#[]⟩ : ByteArray)) := (blk_cell BK471.out 6).trans rfl; have hcz17_7 : w15.cell? ⟨gb471, 7, none⟩ = some (.string (⟨#[]⟩ : ByteArray)) := (blk_cell BK471.out 7).trans rfl; have hcz17_8 : w15.cell? ⟨gb471, 8, none⟩ = some (.string (⟨#[]⟩ : ByteArray)) := (blk_cell BK471.out 8).trans rfl; have hcz17_9 : w15.cell? ⟨gb471, 9, none⟩ = some (.slice none 0 0) := (blk_cell BK471.out 9).trans rfl; have hfz17_0 := blk_frozen BK471.out 0; have hfz17_1 := blk_frozen BK471.out 1; have hfz17_2 := blk_frozen BK471.out 2; have hfz17_3 := blk_frozen BK471.out 3; have hfz17_4 := blk_frozen BK471.out 4; have hfz17_5 := blk_frozen BK471.out 5; have hfz17_6 := blk_frozen BK471.out 6; have hfz17_7 := blk_frozen BK471.out 7; have hfz17_8 := blk_frozen BK471.out 8; have hfz17_9 := blk_frozen BK471.out 9))
         go_roundg k1
         case measure => have := HK1.out; omega
         case rel => exact ⟨(wrap64 (x8_1 + 1)), (by first | rfl | (simp; done) | (simp [*]; done)), H', ⟨by have := HK1.out; omega⟩, ⟨by (with_reducible repeat (fail)); refine blk_far ?_ NB469_471.out _; (with_reducible repeat (fail)); refine blk_far ?_ NB469_471.out _; (with_reducible repeat (fail)); refine blk_far ?_ NB469_471.out _; (with_reducible repeat (fail)); refine blk_far ?_ NB469_471.out _; (with_reducible repeat (fail)); refine blk_far ?_ NB469_471.out _; (with_reducible repeat (fail)); refine blk_far ?_ NB469_471.out _; (with_reducible repeat (fail)); refine blk_far ?_ NB469_471.out _; (with_reducible repeat (fail)); refine blk_far ?_ NB469_471.out _; (with_reducible repeat (fail)); refine blk_far ?_ NB469_471.out _; (with_reducible repeat (fail)); refine blk_far ?_ NB469_471.out _; (with_reducible repeat (fail)); exact BK469.out⟩, ⟨by repeat ((with_reducible first | exact HB.out | refine below_set ?_ GE471.out))⟩⟩
      ·rw [if_neg c6] at H
       exact absurd H (by simp)
     ·rw [if_neg c5] at H
      exact absurd H (by simp)
    ·rw [if_neg c4] at H
     have c4b0 : decide (x8_1 < (l0_4.length : Int)) = false := decide_eq_false c4
     clear c4
     obtain rfl := Option.some.inj H
     go_wp2
     go_ret
     exact ⟨by rfl, by repeat ((with_reducible exact HB.out))⟩

end Go.Proofs.YtkihaebaccdjdaaGreatDoor.PX
