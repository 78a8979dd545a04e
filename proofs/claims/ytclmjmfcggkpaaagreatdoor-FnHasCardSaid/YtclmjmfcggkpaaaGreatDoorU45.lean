import Derived.Test.YtclmjmfcggkpaaaGreatDoorU4
namespace Go.Proofs.YtclmjmfcggkpaaaGreatDoor.PX
open Go.RowKit Go.Proofs.YtclmjmfcggkpaaaGreatDoorW.PrintWords Go.Proofs.YtclmjmfcggkpaaaGreatDoorW.PrintLast Go.Proofs.YtclmjmfcggkpaaaGreatDoorW.PrintMore
attribute [local go_sem] max2_int min2_int max_two min_two max_three min_three max_four min_four   -- for this text's walks alone
set_option linter.unusedVariables false
set_option linter.unusedSimpArgs false

/-! ### spec_AreQueries: function 15 -/
mutual
def spec_AreQueries.l0 : Nat → List (S65) → List (S48) → Int → List (S65) → Int → Int → Option (Bool)
 | 0, _, _, _, _, _, _ => none
 | k + 1, x0, x1, x5, x10, x11, x12 => if x12 < x11 then (if 0 ≤ x12 then (if x12 < (x10.length : Int) then (if ((rd_T65 x10 x12).f0).toList = ([] : List UInt8) then (some false) else (spec_AreQueries.l0 k x0 x1 (wrap64 (x5 + (wrap64 ((((rd_T65 x10 x12).f0).size : Int) + (((rd_T65 x10 x12).f1).size : Int))))) x10 x11 (wrap64 (x12 + 1)))) else (none)) else (none)) else (spec_AreQueries.l1 k x0 x1 x5 x1 (x1.length : Int) 0)
def spec_AreQueries.l1 : Nat → List (S65) → List (S48) → Int → List (S48) → Int → Int → Option (Bool)
 | 0, _, _, _, _, _, _ => none
 | k + 1, x0, x1, x5, x29, x30, x31 => if x31 < x30 then (if 0 ≤ x31 then (if x31 < (x29.length : Int) then (if ((rd_T48 x29 x31).f0) = 1 then (if ((rd_T48 x29 x31).f2).toList = ([] : List UInt8) then (some false) else (if ((rd_T48 x29 x31).f3) < 0 then (some false) else (if ((rd_T48 x29 x31).f3) > 6 then (some false) else (spec_AreQueries.l1 k x0 x1 (wrap64 (x5 + (wrap64 ((((rd_T48 x29 x31).f2).size : Int) + (((rd_T48 x29 x31).f4).size : Int))))) x29 x30 (wrap64 (x31 + 1)))))) else (if ((rd_T48 x29 x31).f0) = 2 then (if ((rd_T48 x29 x31).f2).toList = ([] : List UInt8) then (some false) else (if ((rd_T48 x29 x31).f3) < 0 then (some false) else (if ((rd_T48 x29 x31).f3) > 6 then (some false) else (spec_AreQueries.l1 k x0 x1 (wrap64 (x5 + (wrap64 ((((rd_T48 x29 x31).f2).size : Int) + (((rd_T48 x29 x31).f4).size : Int))))) x29 x30 (wrap64 (x31 + 1)))))) else (some false))) else (none)) else (none)) else (if (x0.length : Int) ≤ 100 then (if (x1.length : Int) ≤ 100 then (some (decide (x5 ≤ 10000))) else (some false)) else (some false))
end
def spec_AreQueries.f (k : Nat) (l0 : List (S65)) (l1 : List (S48)) : Option (Bool) := spec_AreQueries.l0 k l0 l1 0 l0 (l0.length : Int) 0
set_option maxHeartbeats 8000000 in
set_option maxRecDepth 100000 in
theorem spec_AreQueries.calls (k : Nat) (A0 : Option Addr) (c0 : Nat) (l0 : List (S65)) (A1 : Option Addr) (c1 : Nat) (l1 : List (S48)) (r : Bool) (w : World) (hr0 : Kd.C k65 w A0 l0.length l0) (hc0 : l0.length ≤ c0) (hr1 : Kd.C k48 w A1 l1.length l1) (hc1 : l1.length ≤ c1) (h : spec_AreQueries.f k l0 l1 = some r) :
 Calls Tryz.prog 15 #[.slice A0 l0.length c0, .slice A1 l1.length c1] w fun e w' => e = .returned (.bool r) ∧ Below w.heap.size w w' := by
 have hu65 := Tryz.underlying65
 have hu48 := Tryz.underlying48
 have HR0 := Aside0.mk hr0
 have HC0 := Aside0.mk hc0
 clear hr0 hc0
 have HR1 := Aside0.mk hr1
 have HC1 := Aside0.mk hc1
 clear hr1 hc1
 have HB := Aside0.mk (Below.refl w.heap.size w)
 have H : (spec_AreQueries.l0 k l0 l1 0 l0 (l0.length : Int) 0) = some r := h
 clear h
 have H' := Aside0.mk H
 clear H
 go_enter Tryz.func15, Tryz.ntmps15
 go_wp2
 go_loopg [5, 12] k (fun kq v5 v12 w' => ∃ (x5_1 : Int) (x12_1 : Int), v5 = .int .i64 x5_1 ∧ v12 = .int .i64 x12_1 ∧ Aside0 (spec_AreQueries.l0 kq l0 l1 x5_1 l0 (l0.length : Int) x12_1 = some r) ∧ Aside0 (kq ≤ k) ∧ Aside0 (Below w.heap.size w w'))
 case atStart => exact ⟨(0), (0), (by first | rfl | (simp; done) | (simp [*]; done)), (by first | rfl | (simp; done) | (simp [*]; done)), H', ⟨Nat.le_refl _⟩, ⟨by repeat ((with_reducible exact HB.out))⟩⟩
 case round =>
  clear H'
  try clear c1
  try clear p2
  obtain ⟨x5_1, x12_1, rfl, rfl, HA, HK1, HB⟩ := hrel
  cases gk with
  | zero => exact absurd HA.out (by simp [spec_AreQueries.l0])
  | succ k1 =>
    have H := HA.out
    clear HA
    simp only [spec_AreQueries.l0] at H
    by_cases c3 : x12_1 < (l0.length : Int)
    ·rw [if_pos c3] at H
     have c3b0 : decide (x12_1 < (l0.length : Int)) = true := decide_eq_true c3
     clear c3
     by_cases c4 : 0 ≤ x12_1
     ·rw [if_pos c4] at H
      have c4b0 : decide (0 ≤ x12_1) = true := decide_eq_true c4
      clear c4
      by_cases c5 : x12_1 < (l0.length : Int)
      ·rw [if_pos c5] at H
       have c5b0 : decide (x12_1 < (l0.length : Int)) = true := decide_eq_true c5
       clear c5
       by_cases c6 : ((rd_T65 l0 x12_1).f0).toList = ([] : List UInt8)
       ·rw [if_pos c6] at H
        have c6b0 : (((rd_T65 l0 x12_1).f0).toList == ([] : List UInt8)) = true := beq_iff_eq.mpr c6
        have c6b1 : (((rd_T65 l0 x12_1).f0).toList != ([] : List UInt8)) = false := bne_eq_false_iff_eq.mpr c6
        clear c6
        obtain rfl := Option.some.inj H
        have p418 : 0 ≤ (x12_1 : Int) := of_decide_eq_true (by first | (with_reducible assumption) | assumption)
        have q418 : x12_1 < (l0.length : Int) := of_decide_eq_true (by first | (with_reducible assumption) | assumption)
        obtain ⟨ad418, e418, hx418_0, hx418_1, hx418_2⟩ := at_T65 HR0.out x12_1 p418 q418
        cases e418
        replace hx418_0 := (HB.out.cell (World.block_lt_of_cell? w _ hx418_0)).trans hx418_0
        replace hx418_1 := (HB.out.cell (World.block_lt_of_cell? w _ hx418_1)).trans hx418_1
        replace hx418_2 := (HB.out.cell (World.block_lt_of_cell? w _ hx418_2)).trans hx418_2
        replace p418 := eq_true p418
        replace q418 := eq_true q418
        go_wp2_with (first | ((with_reducible refine gate_dst (N := 7) rfl ?_); (try (refine gate_guard (by rfl) ?_; dsimp only)); refine box_event ?hg (N := 7) ?hd (cs := #[.string (⟨#[]⟩ : ByteArray), .string (⟨#[]⟩ : ByteArray), .bool false]) (t := 65) ?hr ?_; (case hd => rfl); (case hg => rfl); (case hr => first | (go_simp; done) | (go_simp; rfl)); intro gb419 hg w7 hbox hb; have n0_ := Aside0.mk (below_step (by repeat ((with_reducible exact HB.out))) hb); have n1_ := Aside0.mk (hbox); have n2_ := Aside0.mk ((by rw [hg]; exact (below_size (by repeat ((with_reducible exact HB.out)))) : w.heap.size ≤ gb419)); have n3_ := Aside0.mk ((by rw [hg]; exact (below_size (by repeat ((with_reducible exact HB.out)))) : w.heap.size ≤ gb419)); clear HB; have HB := n0_; have BK419 := n1_; have GW419 := n2_; have GE419 := n3_; clear n0_ n1_ n2_ n3_; clear hb hbox hg; have hcz8_0 : w7.cell? ⟨gb419, 0, none⟩ = some (.string (⟨#[]⟩ : ByteArray)) := (blk_cell BK419.out 0).trans rfl; have hcz8_1 : w7.cell? ⟨gb419, 1, none⟩ = some (.string (⟨#[]⟩ : ByteArray)) := (blk_cell BK419.out 1).trans rfl; have hcz8_2 : w7.cell? ⟨gb419, 2, none⟩ = some (.bool false) := (blk_cell BK419.out 2).trans rfl; have hfz8_0 := blk_frozen BK419.out 0; have hfz8_1 := blk_frozen BK419.out 1; have hfz8_2 := blk_frozen BK419.out 2))
        go_ret
        exact ⟨by rfl, by repeat ((with_reducible first | exact HB.out | refine below_set ?_ GE419.out))⟩
       ·rw [if_neg c6] at H
        have c6b0 : (((rd_T65 l0 x12_1).f0).toList == ([] : List UInt8)) = false := beq_eq_false_iff_ne.mpr c6
        have c6b1 : (((rd_T65 l0 x12_1).f0).toList != ([] : List UInt8)) = true := bne_iff_ne.mpr c6
        have H' := Aside0.mk H
        clear H
        have p418 : 0 ≤ (x12_1 : Int) := of_decide_eq_true (by first | (with_reducible assumption) | assumption)
        have q418 : x12_1 < (l0.length : Int) := of_decide_eq_true (by first | (with_reducible assumption) | assumption)
        obtain ⟨ad418, e418, hx418_0, hx418_1, hx418_2⟩ := at_T65 HR0.out x12_1 p418 q418
        cases e418
        replace hx418_0 := (HB.out.cell (World.block_lt_of_cell? w _ hx418_0)).trans hx418_0
        replace hx418_1 := (HB.out.cell (World.block_lt_of_cell? w _ hx418_1)).trans hx418_1
        replace hx418_2 := (HB.out.cell (World.block_lt_of_cell? w _ hx418_2)).trans hx418_2
        replace p418 := eq_true p418
        replace q418 := eq_true q418
        go_wp2_with (first | ((with_reducible refine gate_dst (N := 7) rfl ?_); (try (refine gate_guard (by rfl) ?_; dsimp only)); refine box_event ?hg (N := 7) ?hd (cs := #[.string (⟨#[]⟩ : ByteArray), .string (⟨#[]⟩ : ByteArray), .bool false]) (t := 65) ?hr ?_; (case hd => rfl); (case hg => rfl); (case hr => first | (go_simp; done) | (go_simp; rfl)); intro gb419 hg w9 hbox hb; have n0_ := Aside0.mk (below_step (by repeat ((with_reducible exact HB.out))) hb); have n1_ := Aside0.mk (hbox); have n2_ := Aside0.mk ((by rw [hg]; exact (below_size (by repeat ((with_reducible exact HB.out)))) : w.heap.size ≤ gb419)); have n3_ := Aside0.mk ((by rw [hg]; exact (below_size (by repeat ((with_reducible exact HB.out)))) : w.heap.size ≤ gb419)); clear HB; have HB := n0_; have BK419 := n1_; have GW419 := n2_; have GE419 := n3_; clear n0_ n1_ n2_ n3_; clear hb hbox hg; have hcz10_0 : w9.cell? ⟨gb419, 0, none⟩ = some (.string (⟨#[]⟩ : ByteArray)) := (blk_cell BK419.out 0).trans rfl; have hcz10_1 : w9.cell? ⟨gb419, 1, none⟩ = some (.string (⟨#[]⟩ : ByteArray)) := (blk_cell BK419.out 1).trans rfl; have hcz10_2 : w9.cell? ⟨gb419, 2, none⟩ = some (.bool false) := (blk_cell BK419.out 2).trans rfl; have hfz10_0 := blk_frozen BK419.out 0; have hfz10_1 := blk_frozen BK419.out 1; have hfz10_2 := blk_frozen BK419.out 2))
        go_roundg k1
        case measure => have := HK1.out; omega
        case rel => exact ⟨(wrap64 (x5_1 + (wrap64 ((((rd_T65 l0 x12_1).f0).size : Int) + (((rd_T65 l0 x12_1).f1).size : Int))))), (wrap64 (x12_1 + 1)), (by first | rfl | (simp; done) | (simp [*]; done)), (by first | rfl | (simp; done) | (simp [*]; done)), H', ⟨by have := HK1.out; omega⟩, ⟨by repeat ((with_reducible first | exact HB.out | refine below_set ?_ GE419.out))⟩⟩
      ·rw [if_neg c5] at H
       exact absurd H (by simp)
     ·rw [if_neg c4] at H
      exact absurd H (by simp)
    ·rw [if_neg c3] at H
     have c3b0 : decide (x12_1 < (l0.length : Int)) = false := decide_eq_false c3
     clear c3
     have H' := Aside0.mk H
     clear H
     go_wp2
     go_loopg [5, 31] k1 (fun kq v5 v31 w' => ∃ (x5_2 : Int) (x31_2 : Int), v5 = .int .i64 x5_2 ∧ v31 = .int .i64 x31_2 ∧ Aside0 (spec_AreQueries.l1 kq l0 l1 x5_2 l1 (l1.length : Int) x31_2 = some r) ∧ Aside0 (kq ≤ k1) ∧ Aside0 (Below w.heap.size w w'))
     case atStart => exact ⟨(x5_1), (0), (by first | rfl | (simp; done) | (simp [*]; done)), (by first | rfl | (simp; done) | (simp [*]; done)), H', ⟨Nat.le_refl _⟩, ⟨by repeat ((with_reducible exact HB.out))⟩⟩
     case round =>
      clear H'
      try clear c1
      try clear p2
      try clear c3
      try clear c3b0
      try clear c4
      try clear c4b0
      try clear p4
      try clear q4
      try clear hx4
      try clear c5
      try clear c5b0
      try clear c6
      try clear c6b0
      try clear c6b1
      try clear p6
      try clear hcz10_0
      try clear hcz10_1
      try clear hcz10_2
      try clear hcz8_0
      try clear hcz8_1
      try clear hcz8_2
      try clear hfz10_0
      try clear hfz10_1
      try clear hfz10_2
      try clear hfz8_0
      try clear hfz8_1
      try clear hfz8_2
      try clear hx418_0
      try clear hx418_1
      try clear hx418_2
      try clear p2
      try clear p418
      try clear q418
      obtain ⟨x5_2, x31_2, rfl, rfl, HA, HK2, HB⟩ := hrel
      cases gk with
      | zero => exact absurd HA.out (by simp [spec_AreQueries.l1])
      | succ k2 =>
        have H := HA.out
        clear HA
        simp only [spec_AreQueries.l1] at H
        by_cases c11 : x31_2 < (l1.length : Int)
        ·rw [if_pos c11] at H
         have c11b0 : decide (x31_2 < (l1.length : Int)) = true := decide_eq_true c11
         clear c11
         by_cases c12 : 0 ≤ x31_2
         ·rw [if_pos c12] at H
          have c12b0 : decide (0 ≤ x31_2) = true := decide_eq_true c12
          clear c12
          by_cases c13 : x31_2 < (l1.length : Int)
          ·rw [if_pos c13] at H
           have c13b0 : decide (x31_2 < (l1.length : Int)) = true := decide_eq_true c13
           clear c13
           by_cases c14 : ((rd_T48 l1 x31_2).f0) = 1
           ·rw [if_pos c14] at H
            have c14b0 : (((rd_T48 l1 x31_2).f0) == 1) = true := beq_iff_eq.mpr c14
            have c14b1 : (((rd_T48 l1 x31_2).f0) != 1) = false := bne_eq_false_iff_eq.mpr c14
            clear c14
            by_cases c15 : ((rd_T48 l1 x31_2).f2).toList = ([] : List UInt8)
            ·rw [if_pos c15] at H
             have c15b0 : (((rd_T48 l1 x31_2).f2).toList == ([] : List UInt8)) = true := beq_iff_eq.mpr c15
             have c15b1 : (((rd_T48 l1 x31_2).f2).toList != ([] : List UInt8)) = false := bne_eq_false_iff_eq.mpr c15
             clear c15
             obtain rfl := Option.some.inj H
             have p420 : 0 ≤ (x31_2 : Int) := of_decide_eq_true (by first | (with_reducible assumption) | assumption)
             have q420 : x31_2 < (l1.length : Int) := of_decide_eq_true (by first | (with_reducible assumption) | assumption)
             obtain ⟨ad420, e420, hx420_0, hx420_1, hx420_2, hx420_3, hx420_4, hx420_5⟩ := at_T48 HR1.out x31_2 p420 q420
             cases e420
             replace hx420_0 := (HB.out.cell (World.block_lt_of_cell? w _ hx420_0)).trans hx420_0
             replace hx420_1 := (HB.out.cell (World.block_lt_of_cell? w _ hx420_1)).trans hx420_1
             replace hx420_2 := (HB.out.cell (World.block_lt_of_cell? w _ hx420_2)).trans hx420_2
             replace hx420_3 := (HB.out.cell (World.block_lt_of_cell? w _ hx420_3)).trans hx420_3
             replace hx420_4 := (HB.out.cell (World.block_lt_of_cell? w _ hx420_4)).trans hx420_4
             replace hx420_5 := (HB.out.cell (World.block_lt_of_cell? w _ hx420_5)).trans hx420_5
             replace p420 := eq_true p420
             replace q420 := eq_true q420
             go_wp2_with (first | ((with_reducible refine gate_dst (N := 9) rfl ?_); (try (refine gate_guard (by rfl) ?_; dsimp only)); refine box_event ?hg (N := 9) ?hd (cs := #[.int .i64 0, .string (⟨#[]⟩ : ByteArray), .string (⟨#[]⟩ : ByteArray), .int .i64 0, .string (⟨#[]⟩ : ByteArray), .int .i64 0]) (t := 48) ?hr ?_; (case hd => rfl); (case hg => rfl); (case hr => first | (go_simp; done) | (go_simp; rfl)); intro gb421 hg w16 hbox hb; have n0_ := Aside0.mk (below_step (by repeat ((with_reducible exact HB.out))) hb); have n1_ := Aside0.mk (hbox); have n2_ := Aside0.mk ((by rw [hg]; exact (below_size (by repeat ((with_reducible exact HB.out)))) : w.heap.size ≤ gb421)); have n3_ := Aside0.mk ((by rw [hg]; exact (below_size (by repeat ((with_reducible exact HB.out)))) : w.heap.size ≤ gb421)); clear HB; have HB := n0_; have BK421 := n1_; have GW421 := n2_; have GE421 := n3_; clear n0_ n1_ n2_ n3_; clear hb hbox hg; have hcz17_0 : w16.cell? ⟨gb421, 0, none⟩ = some (.int .i64 0) := (blk_cell BK421.out 0).trans rfl; have hcz17_1 : w16.cell? ⟨gb421, 1, none⟩ = some (.string (⟨#[]⟩ : ByteArray)) := (blk_cell BK421.out 1).trans rfl; have hcz17_2 : w16.cell? ⟨gb421, 2, none⟩ = some (.string (⟨#[]⟩ : ByteArray)) := (blk_cell BK421.out 2).trans rfl; have hcz17_3 : w16.cell? ⟨gb421, 3, none⟩ = some (.int .i64 0) := (blk_cell BK421.out 3).trans rfl; have hcz17_4 : w16.cell? ⟨gb421, 4, none⟩ = some (.string (⟨#[]⟩ : ByteArray)) := (blk_cell BK421.out 4).trans rfl; have hcz17_5 : w16.cell? ⟨gb421, 5, none⟩ = some (.int .i64 0) := (blk_cell BK421.out 5).trans rfl; have hfz17_0 := blk_frozen BK421.out 0; have hfz17_1 := blk_frozen BK421.out 1; have hfz17_2 := blk_frozen BK421.out 2; have hfz17_3 := blk_frozen BK421.out 3; have hfz17_4 := blk_frozen BK421.out 4; have hfz17_5 := blk_frozen BK421.out 5))
             go_ret
             exact ⟨by rfl, by repeat ((with_reducible first | exact HB.out | refine below_set ?_ GE421.out))⟩
            ·rw [if_neg c15] at H
             have c15b0 : (((rd_T48 l1 x31_2).f2).toList == ([] : List UInt8)) = false := beq_eq_false_iff_ne.mpr c15
             have c15b1 : (((rd_T48 l1 x31_2).f2).toList != ([] : List UInt8)) = true := bne_iff_ne.mpr c15
             by_cases c18 : ((rd_T48 l1 x31_2).f3) < 0
             ·rw [if_pos c18] at H
              have c18b0 : decide (((rd_T48 l1 x31_2).f3) < 0) = true := decide_eq_true c18
              clear c18
              obtain rfl := Option.some.inj H
              have p420 : 0 ≤ (x31_2 : Int) := of_decide_eq_true (by first | (with_reducible assumption) | assumption)
              have q420 : x31_2 < (l1.length : Int) := of_decide_eq_true (by first | (with_reducible assumption) | assumption)
              obtain ⟨ad420, e420, hx420_0, hx420_1, hx420_2, hx420_3, hx420_4, hx420_5⟩ := at_T48 HR1.out x31_2 p420 q420
              cases e420
              replace hx420_0 := (HB.out.cell (World.block_lt_of_cell? w _ hx420_0)).trans hx420_0
              replace hx420_1 := (HB.out.cell (World.block_lt_of_cell? w _ hx420_1)).trans hx420_1
              replace hx420_2 := (HB.out.cell (World.block_lt_of_cell? w _ hx420_2)).trans hx420_2
              replace hx420_3 := (HB.out.cell (World.block_lt_of_cell? w _ hx420_3)).trans hx420_3
              replace hx420_4 := (HB.out.cell (World.block_lt_of_cell? w _ hx420_4)).trans hx420_4
              replace hx420_5 := (HB.out.cell (World.block_lt_of_cell? w _ hx420_5)).trans hx420_5
              replace p420 := eq_true p420
              replace q420 := eq_true q420
              go_wp2_with (first | ((with_reducible refine gate_dst (N := 9) rfl ?_); (try (refine gate_guard (by rfl) ?_; dsimp only)); refine box_event ?hg (N := 9) ?hd (cs := #[.int .i64 0, .string (⟨#[]⟩ : ByteArray), .string (⟨#[]⟩ : ByteArray), .int .i64 0, .string (⟨#[]⟩ : ByteArray), .int .i64 0]) (t := 48) ?hr ?_; (case hd => rfl); (case hg => rfl); (case hr => first | (go_simp; done) | (go_simp; rfl)); intro gb421 hg w19 hbox hb; have n0_ := Aside0.mk (below_step (by repeat ((with_reducible exact HB.out))) hb); have n1_ := Aside0.mk (hbox); have n2_ := Aside0.mk ((by rw [hg]; exact (below_size (by repeat ((with_reducible exact HB.out)))) : w.heap.size ≤ gb421)); have n3_ := Aside0.mk ((by rw [hg]; exact (below_size (by repeat ((with_reducible exact HB.out)))) : w.heap.size ≤ gb421)); clear HB; have HB := n0_; have BK421 := n1_; have GW421 := n2_; have GE421 := n3_; clear n0_ n1_ n2_ n3_; clear hb hbox hg; have hcz20_0 : w19.cell? ⟨gb421, 0, none⟩ = some (.int .i64 0) := (blk_cell BK421.out 0).trans rfl; have hcz20_1 : w19.cell? ⟨gb421, 1, none⟩ = some (.string (⟨#[]⟩ : ByteArray)) := (blk_cell BK421.out 1).trans rfl; have hcz20_2 : w19.cell? ⟨gb421, 2, none⟩ = some (.string (⟨#[]⟩ : ByteArray)) := (blk_cell BK421.out 2).trans rfl; have hcz20_3 : w19.cell? ⟨gb421, 3, none⟩ = some (.int .i64 0) := (blk_cell BK421.out 3).trans rfl; have hcz20_4 : w19.cell? ⟨gb421, 4, none⟩ = some (.string (⟨#[]⟩ : ByteArray)) := (blk_cell BK421.out 4).trans rfl; have hcz20_5 : w19.cell? ⟨gb421, 5, none⟩ = some (.int .i64 0) := (blk_cell BK421.out 5).trans rfl; have hfz20_0 := blk_frozen BK421.out 0; have hfz20_1 := blk_frozen BK421.out 1; have hfz20_2 := blk_frozen BK421.out 2; have hfz20_3 := blk_frozen BK421.out 3; have hfz20_4 := blk_frozen BK421.out 4; have hfz20_5 := blk_frozen BK421.out 5))
              go_ret
              exact ⟨by rfl, by repeat ((with_reducible first | exact HB.out | refine below_set ?_ GE421.out))⟩
             ·rw [if_neg c18] at H
              have c18b0 : decide (((rd_T48 l1 x31_2).f3) < 0) = false := decide_eq_false c18
              clear c18
              by_cases c21 : ((rd_T48 l1 x31_2).f3) > 6
              ·rw [if_pos c21] at H
               have c21b0 : decide (6 < ((rd_T48 l1 x31_2).f3)) = true := decide_eq_true c21
               clear c21
               obtain rfl := Option.some.inj H
               have p420 : 0 ≤ (x31_2 : Int) := of_decide_eq_true (by first | (with_reducible assumption) | assumption)
               have q420 : x31_2 < (l1.length : Int) := of_decide_eq_true (by first | (with_reducible assumption) | assumption)
               obtain ⟨ad420, e420, hx420_0, hx420_1, hx420_2, hx420_3, hx420_4, hx420_5⟩ := at_T48 HR1.out x31_2 p420 q420
               cases e420
               replace hx420_0 := (HB.out.cell (World.block_lt_of_cell? w _ hx420_0)).trans hx420_0
               replace hx420_1 := (HB.out.cell (World.block_lt_of_cell? w _ hx420_1)).trans hx420_1
               replace hx420_2 := (HB.out.cell (World.block_lt_of_cell? w _ hx420_2)).trans hx420_2
               replace hx420_3 := (HB.out.cell (World.block_lt_of_cell? w _ hx420_3)).trans hx420_3
               replace hx420_4 := (HB.out.cell (World.block_lt_of_cell? w _ hx420_4)).trans hx420_4
               replace hx420_5 := (HB.out.cell (World.block_lt_of_cell? w _ hx420_5)).trans hx420_5
               replace p420 := eq_true p420
               replace q420 := eq_true q420
               go_wp2_with (first | ((with_reducible refine gate_dst (N := 9) rfl ?_); (try (refine gate_guard (by rfl) ?_; dsimp only)); refine box_event ?hg (N := 9) ?hd (cs := #[.int .i64 0, .string (⟨#[]⟩ : ByteArray), .string (⟨#[]⟩ : ByteArray), .int .i64 0, .string (⟨#[]⟩ : ByteArray), .int .i64 0]) (t := 48) ?hr ?_; (case hd => rfl); (case hg => rfl); (case hr => first | (go_simp; done) | (go_simp; rfl)); intro gb421 hg w22 hbox hb; have n0_ := Aside0.mk (below_step (by repeat ((with_reducible exact HB.out))) hb); have n1_ := Aside0.mk (hbox); have n2_ := Aside0.mk ((by rw [hg]; exact (below_size (by repeat ((with_reducible exact HB.out)))) : w.heap.size ≤ gb421)); have n3_ := Aside0.mk ((by rw [hg]; exact (below_size (by repeat ((with_reducible exact HB.out)))) : w.heap.size ≤ gb421)); clear HB; have HB := n0_; have BK421 := n1_; have GW421 := n2_; have GE421 := n3_; clear n0_ n1_ n2_ n3_; clear hb hbox hg; have hcz23_0 : w22.cell? ⟨gb421, 0, none⟩ = some (.int .i64 0) := (blk_cell BK421.out 0).trans rfl; have hcz23_1 : w22.cell? ⟨gb421, 1, none⟩ = some (.string (⟨#[]⟩ : ByteArray)) := (blk_cell BK421.out 1).trans rfl; have hcz23_2 : w22.cell? ⟨gb421, 2, none⟩ = some (.string (⟨#[]⟩ : ByteArray)) := (blk_cell BK421.out 2).trans rfl; have hcz23_3 : w22.cell? ⟨gb421, 3, none⟩ = some (.int .i64 0) := (blk_cell BK421.out 3).trans rfl; have hcz23_4 : w22.cell? ⟨gb421, 4, none⟩ = some (.string (⟨#[]⟩ : ByteArray)) := (blk_cell BK421.out 4).trans rfl; have hcz23_5 : w22.cell? ⟨gb421, 5, none⟩ = some (.int .i64 0) := (blk_cell BK421.out 5).trans rfl; have hfz23_0 := blk_frozen BK421.out 0; have hfz23_1 := blk_frozen BK421.out 1; have hfz23_2 := blk_frozen BK421.out 2; have hfz23_3 := blk_frozen BK421.out 3; have hfz23_4 := blk_frozen BK421.out 4; have hfz23_5 := blk_frozen BK421.out 5))
               go_ret
               exact ⟨by rfl, by repeat ((with_reducible first | exact HB.out | refine below_set ?_ GE421.out))⟩
              ·rw [if_neg c21] at H
               have c21b0 : decide (6 < ((rd_T48 l1 x31_2).f3)) = false := decide_eq_false c21
               clear c21
               have H' := Aside0.mk H
               clear H
               have p420 : 0 ≤ (x31_2 : Int) := of_decide_eq_true (by first | (with_reducible assumption) | assumption)
               have q420 : x31_2 < (l1.length : Int) := of_decide_eq_true (by first | (with_reducible assumption) | assumption)
               obtain ⟨ad420, e420, hx420_0, hx420_1, hx420_2, hx420_3, hx420_4, hx420_5⟩ := at_T48 HR1.out x31_2 p420 q420
               cases e420
               replace hx420_0 := (HB.out.cell (World.block_lt_of_cell? w _ hx420_0)).trans hx420_0
               replace hx420_1 := (HB.out.cell (World.block_lt_of_cell? w _ hx420_1)).trans hx420_1
               replace hx420_2 := (HB.out.cell (World.block_lt_of_cell? w _ hx420_2)).trans hx420_2
               replace hx420_3 := (HB.out.cell (World.block_lt_of_cell? w _ hx420_3)).trans hx420_3
               replace hx420_4 := (HB.out.cell (World.block_lt_of_cell? w _ hx420_4)).trans hx420_4
               replace hx420_5 := (HB.out.cell (World.block_lt_of_cell? w _ hx420_5)).trans hx420_5
               replace p420 := eq_true p420
               replace q420 := eq_true q420
               go_wp2_with (first | ((with_reducible refine gate_dst (N := 9) rfl ?_); (try (refine gate_guard (by rfl) ?_; dsimp only)); refine box_event ?hg (N := 9) ?hd (cs := #[.int .i64 0, .string (⟨#[]⟩ : ByteArray), .string (⟨#[]⟩ : ByteArray), .int .i64 0, .string (⟨#[]⟩ : ByteArray), .int .i64 0]) (t := 48) ?hr ?_; (case hd => rfl); (case hg => rfl); (case hr => first | (go_simp; done) | (go_simp; rfl)); intro gb421 hg w24 hbox hb; have n0_ := Aside0.mk (below_step (by repeat ((with_reducible exact HB.out))) hb); have n1_ := Aside0.mk (hbox); have n2_ := Aside0.mk ((by rw [hg]; exact (below_size (by repeat ((with_reducible exact HB.out)))) : w.heap.size ≤ gb421)); have n3_ := Aside0.mk ((by rw [hg]; exact (below_size (by repeat ((with_reducible exact HB.out)))) : w.heap.size ≤ gb421)); clear HB; have HB := n0_; have BK421 := n1_; have GW421 := n2_; have GE421 := n3_; clear n0_ n1_ n2_ n3_; clear hb hbox hg; have hcz25_0 : w24.cell? ⟨gb421, 0, none⟩ = some (.int .i64 0) := (blk_cell BK421.out 0).trans rfl; have hcz25_1 : w24.cell? ⟨gb421, 1, none⟩ = some (.string (⟨#[]⟩ : ByteArray)) := (blk_cell BK421.out 1).trans rfl; have hcz25_2 : w24.cell? ⟨gb421, 2, none⟩ = some (.string (⟨#[]⟩ : ByteArray)) := (blk_cell BK421.out 2).trans rfl; have hcz25_3 : w24.cell? ⟨gb421, 3, none⟩ = some (.int .i64 0) := (blk_cell BK421.out 3).trans rfl; have hcz25_4 : w24.cell? ⟨gb421, 4, none⟩ = some (.string (⟨#[]⟩ : ByteArray)) := (blk_cell BK421.out 4).trans rfl; have hcz25_5 : w24.cell? ⟨gb421, 5, none⟩ = some (.int .i64 0) := (blk_cell BK421.out 5).trans rfl; have hfz25_0 := blk_frozen BK421.out 0; have hfz25_1 := blk_frozen BK421.out 1; have hfz25_2 := blk_frozen BK421.out 2; have hfz25_3 := blk_frozen BK421.out 3; have hfz25_4 := blk_frozen BK421.out 4; have hfz25_5 := blk_frozen BK421.out 5))
               go_roundg k2
               case measure => have := HK1.out; have := HK2.out; omega
               case rel => exact ⟨(wrap64 (x5_2 + (wrap64 ((((rd_T48 l1 x31_2).f2).size : Int) + (((rd_T48 l1 x31_2).f4).size : Int))))), (wrap64 (x31_2 + 1)), (by first | rfl | (simp; done) | (simp [*]; done)), (by first | rfl | (simp; done) | (simp [*]; done)), H', ⟨by have := HK1.out; have := HK2.out; omega⟩, ⟨by repeat ((with_reducible first | exact HB.out | refine below_set ?_ GE421.out))⟩⟩
           ·rw [if_neg c14] at H
            have c14b0 : (((rd_T48 l1 x31_2).f0) == 1) = false := beq_eq_false_iff_ne.mpr c14
            have c14b1 : (((rd_T48 l1 x31_2).f0) != 1) = true := bne_iff_ne.mpr c14
            by_cases c26 : ((rd_T48 l1 x31_2).f0) = 2
            ·rw [if_pos c26] at H
             have c26b0 : (((rd_T48 l1 x31_2).f0) == 2) = true := beq_iff_eq.mpr c26
             have c26b1 : (((rd_T48 l1 x31_2).f0) != 2) = false := bne_eq_false_iff_eq.mpr c26
             clear c26
             by_cases c27 : ((rd_T48 l1 x31_2).f2).toList = ([] : List UInt8)
             ·rw [if_pos c27] at H
              have c27b0 : (((rd_T48 l1 x31_2).f2).toList == ([] : List UInt8)) = true := beq_iff_eq.mpr c27
              have c27b1 : (((rd_T48 l1 x31_2).f2).toList != ([] : List UInt8)) = false := bne_eq_false_iff_eq.mpr c27
              clear c27
              obtain rfl := Option.some.inj H
              have p420 : 0 ≤ (x31_2 : Int) := of_decide_eq_true (by first | (with_reducible assumption) | assumption)
              have q420 : x31_2 < (l1.length : Int) := of_decide_eq_true (by first | (with_reducible assumption) | assumption)
              obtain ⟨ad420, e420, hx420_0, hx420_1, hx420_2, hx420_3, hx420_4, hx420_5⟩ := at_T48 HR1.out x31_2 p420 q420
              cases e420
              replace hx420_0 := (HB.out.cell (World.block_lt_of_cell? w _ hx420_0)).trans hx420_0
              replace hx420_1 := (HB.out.cell (World.block_lt_of_cell? w _ hx420_1)).trans hx420_1
              replace hx420_2 := (HB.out.cell (World.block_lt_of_cell? w _ hx420_2)).trans hx420_2
              replace hx420_3 := (HB.out.cell (World.block_lt_of_cell? w _ hx420_3)).trans hx420_3
              replace hx420_4 := (HB.out.cell (World.block_lt_of_cell? w _ hx420_4)).trans hx420_4
              replace hx420_5 := (HB.out.cell (World.block_lt_of_cell? w _ hx420_5)).trans hx420_5
              replace p420 := eq_true p420
              replace q420 := eq_true q420
              go_wp2_with (first | ((with_reducible refine gate_dst (N := 9) rfl ?_); (try (refine gate_guard (by rfl) ?_; dsimp only)); refine box_event ?hg (N := 9) ?hd (cs := #[.int .i64 0, .string (⟨#[]⟩ : ByteArray), .string (⟨#[]⟩ : ByteArray), .int .i64 0, .string (⟨#[]⟩ : ByteArray), .int .i64 0]) (t := 48) ?hr ?_; (case hd => rfl); (case hg => rfl); (case hr => first | (go_simp; done) | (go_simp; rfl)); intro gb421 hg w28 hbox hb; have n0_ := Aside0.mk (below_step (by repeat ((with_reducible exact HB.out))) hb); have n1_ := Aside0.mk (hbox); have n2_ := Aside0.mk ((by rw [hg]; exact (below_size (by repeat ((with_reducible exact HB.out)))) : w.heap.size ≤ gb421)); have n3_ := Aside0.mk ((by rw [hg]; exact (below_size (by repeat ((with_reducible exact HB.out)))) : w.heap.size ≤ gb421)); clear HB; have HB := n0_; have BK421 := n1_; have GW421 := n2_; have GE421 := n3_; clear n0_ n1_ n2_ n3_; clear hb hbox hg; have hcz29_0 : w28.cell? ⟨gb421, 0, none⟩ = some (.int .i64 0) := (blk_cell BK421.out 0).trans rfl; have hcz29_1 : w28.cell? ⟨gb421, 1, none⟩ = some (.string (⟨#[]⟩ : ByteArray)) := (blk_cell BK421.out 1).trans rfl; have hcz29_2 : w28.cell? ⟨gb421, 2, none⟩ = some (.string (⟨#[]⟩ : ByteArray)) := (blk_cell BK421.out 2).trans rfl; have hcz29_3 : w28.cell? ⟨gb421, 3, none⟩ = some (.int .i64 0) := (blk_cell BK421.out 3).trans rfl; have hcz29_4 : w28.cell? ⟨gb421, 4, none⟩ = some (.string (⟨#[]⟩ : ByteArray)) := (blk_cell BK421.out 4).trans rfl; have hcz29_5 : w28.cell? ⟨gb421, 5, none⟩ = some (.int .i64 0) := (blk_cell BK421.out 5).trans rfl; have hfz29_0 := blk_frozen BK421.out 0; have hfz29_1 := blk_frozen BK421.out 1; have hfz29_2 := blk_frozen BK421.out 2; have hfz29_3 := blk_frozen BK421.out 3; have hfz29_4 := blk_frozen BK421.out 4; have hfz29_5 := blk_frozen BK421.out 5))
              go_ret
              exact ⟨by rfl, by repeat ((with_reducible first | exact HB.out | refine below_set ?_ GE421.out))⟩
             ·rw [if_neg c27] at H
              have c27b0 : (((rd_T48 l1 x31_2).f2).toList == ([] : List UInt8)) = false := beq_eq_false_iff_ne.mpr c27
              have c27b1 : (((rd_T48 l1 x31_2).f2).toList != ([] : List UInt8)) = true := bne_iff_ne.mpr c27
              by_cases c30 : ((rd_T48 l1 x31_2).f3) < 0
              ·rw [if_pos c30] at H
               have c30b0 : decide (((rd_T48 l1 x31_2).f3) < 0) = true := decide_eq_true c30
               clear c30
               obtain rfl := Option.some.inj H
               have p420 : 0 ≤ (x31_2 : Int) := of_decide_eq_true (by first | (with_reducible assumption) | assumption)
               have q420 : x31_2 < (l1.length : Int) := of_decide_eq_true (by first | (with_reducible assumption) | assumption)
               obtain ⟨ad420, e420, hx420_0, hx420_1, hx420_2, hx420_3, hx420_4, hx420_5⟩ := at_T48 HR1.out x31_2 p420 q420
               cases e420
               replace hx420_0 := (HB.out.cell (World.block_lt_of_cell? w _ hx420_0)).trans hx420_0
               replace hx420_1 := (HB.out.cell (World.block_lt_of_cell? w _ hx420_1)).trans hx420_1
               replace hx420_2 := (HB.out.cell (World.block_lt_of_cell? w _ hx420_2)).trans hx420_2
               replace hx420_3 := (HB.out.cell (World.block_lt_of_cell? w _ hx420_3)).trans hx420_3
               replace hx420_4 := (HB.out.cell (World.block_lt_of_cell? w _ hx420_4)).trans hx420_4
               replace hx420_5 := (HB.out.cell (World.block_lt_of_cell? w _ hx420_5)).trans hx420_5
               replace p420 := eq_true p420
               replace q420 := eq_true q420
               go_wp2_with (first | ((with_reducible refine gate_dst (N := 9) rfl ?_); (try (refine gate_guard (by rfl) ?_; dsimp only)); refine box_event ?hg (N := 9) ?hd (cs := #[.int .i64 0, .string (⟨#[]⟩ : ByteArray), .string (⟨#[]⟩ : ByteArray), .int .i64 0, .string (⟨#[]⟩ : ByteArray), .int .i64 0]) (t := 48) ?hr ?_; (case hd => rfl); (case hg => rfl); (case hr => first | (go_simp; done) | (go_simp; rfl)); intro gb421 hg w31 hbox hb; have n0_ := Aside0.mk (below_step (by repeat ((with_reducible exact HB.out))) hb); have n1_ := Aside0.mk (hbox); have n2_ := Aside0.mk ((by rw [hg]; exact (below_size (by repeat ((with_reducible exact HB.out)))) : w.heap.size ≤ gb421)); have n3_ := Aside0.mk ((by rw [hg]; exact (below_size (by repeat ((with_reducible exact HB.out)))) : w.heap.size ≤ gb421)); clear HB; have HB := n0_; have BK421 := n1_; have GW421 := n2_; have GE421 := n3_; clear n0_ n1_ n2_ n3_; clear hb hbox hg; have hcz32_0 : w31.cell? ⟨gb421, 0, none⟩ = some (.int .i64 0) := (blk_cell BK421.out 0).trans rfl; have hcz32_1 : w31.cell? ⟨gb421, 1, none⟩ = some (.string (⟨#[]⟩ : ByteArray)) := (blk_cell BK421.out 1).trans rfl; have hcz32_2 : w31.cell? ⟨gb421, 2, none⟩ = some (.string (⟨#[]⟩ : ByteArray)) := (blk_cell BK421.out 2).trans rfl; have hcz32_3 : w31.cell? ⟨gb421, 3, none⟩ = some (.int .i64 0) := (blk_cell BK421.out 3).trans rfl; have hcz32_4 : w31.cell? ⟨gb421, 4, none⟩ = some (.string (⟨#[]⟩ : ByteArray)) := (blk_cell BK421.out 4).trans rfl; have hcz32_5 : w31.cell? ⟨gb421, 5, none⟩ = some (.int .i64 0) := (blk_cell BK421.out 5).trans rfl; have hfz32_0 := blk_frozen BK421.out 0; have hfz32_1 := blk_frozen BK421.out 1; have hfz32_2 := blk_frozen BK421.out 2; have hfz32_3 := blk_frozen BK421.out 3; have hfz32_4 := blk_frozen BK421.out 4; have hfz32_5 := blk_frozen BK421.out 5))
               go_ret
               exact ⟨by rfl, by repeat ((with_reducible first | exact HB.out | refine below_set ?_ GE421.out))⟩
              ·rw [if_neg c30] at H
               have c30b0 : decide (((rd_T48 l1 x31_2).f3) < 0) = false := decide_eq_false c30
               clear c30
               by_cases c33 : ((rd_T48 l1 x31_2).f3) > 6
               ·rw [if_pos c33] at H
                have c33b0 : decide (6 < ((rd_T48 l1 x31_2).f3)) = true := decide_eq_true c33
                clear c33
                obtain rfl := Option.some.inj H
                have p420 : 0 ≤ (x31_2 : Int) := of_decide_eq_true (by first | (with_reducible assumption) | assumption)
                have q420 : x31_2 < (l1.length : Int) := of_decide_eq_true (by first | (with_reducible assumption) | assumption)
                obtain ⟨ad420, e420, hx420_0, hx420_1, hx420_2, hx420_3, hx420_4, hx420_5⟩ := at_T48 HR1.out x31_2 p420 q420
                cases e420
                replace hx420_0 := (HB.out.cell (World.block_lt_of_cell? w _ hx420_0)).trans hx420_0
                replace hx420_1 := (HB.out.cell (World.block_lt_of_cell? w _ hx420_1)).trans hx420_1
                replace hx420_2 := (HB.out.cell (World.block_lt_of_cell? w _ hx420_2)).trans hx420_2
                replace hx420_3 := (HB.out.cell (World.block_lt_of_cell? w _ hx420_3)).trans hx420_3
                replace hx420_4 := (HB.out.cell (World.block_lt_of_cell? w _ hx420_4)).trans hx420_4
                replace hx420_5 := (HB.out.cell (World.block_lt_of_cell? w _ hx420_5)).trans hx420_5
                replace p420 := eq_true p420
                replace q420 := eq_true q420
                go_wp2_with (first | ((with_reducible refine gate_dst (N := 9) rfl ?_); (try (refine gate_guard (by rfl) ?_; dsimp only)); refine box_event ?hg (N := 9) ?hd (cs := #[.int .i64 0, .string (⟨#[]⟩ : ByteArray), .string (⟨#[]⟩ : ByteArray), .int .i64 0, .string (⟨#[]⟩ : ByteArray), .int .i64 0]) (t := 48) ?hr ?_; (case hd => rfl); (case hg => rfl); (case hr => first | (go_simp; done) | (go_simp; rfl)); intro gb421 hg w34 hbox hb; have n0_ := Aside0.mk (below_step (by repeat ((with_reducible exact HB.out))) hb); have n1_ := Aside0.mk (hbox); have n2_ := Aside0.mk ((by rw [hg]; exact (below_size (by repeat ((with_reducible exact HB.out)))) : w.heap.size ≤ gb421)); have n3_ := Aside0.mk ((by rw [hg]; exact (below_size (by repeat ((with_reducible exact HB.out)))) : w.heap.size ≤ gb421)); clear HB; have HB := n0_; have BK421 := n1_; have GW421 := n2_; have GE421 := n3_; clear n0_ n1_ n2_ n3_; clear hb hbox hg; have hcz35_0 : w34.cell? ⟨gb421, 0, none⟩ = some (.int .i64 0) := (blk_cell BK421.out 0).trans rfl; have hcz35_1 : w34.cell? ⟨gb421, 1, none⟩ = some (.string (⟨#[]⟩ : ByteArray)) := (blk_cell BK421.out 1).trans rfl; have hcz35_2 : w34.cell? ⟨gb421, 2, none⟩ = some (.string (⟨#[]⟩ : ByteArray)) := (blk_cell BK421.out 2).trans rfl; have hcz35_3 : w34.cell? ⟨gb421, 3, none⟩ = some (.int .i64 0) := (blk_cell BK421.out 3).trans rfl; have hcz35_4 : w34.cell? ⟨gb421, 4, none⟩ = some (.string (⟨#[]⟩ : ByteArray)) := (blk_cell BK421.out 4).trans rfl; have hcz35_5 : w34.cell? ⟨gb421, 5, none⟩ = some (.int .i64 0) := (blk_cell BK421.out 5).trans rfl; have hfz35_0 := blk_frozen BK421.out 0; have hfz35_1 := blk_frozen BK421.out 1; have hfz35_2 := blk_frozen BK421.out 2; have hfz35_3 := blk_frozen BK421.out 3; have hfz35_4 := blk_frozen BK421.out 4; have hfz35_5 := blk_frozen BK421.out 5))
                go_ret
                exact ⟨by rfl, by repeat ((with_reducible first | exact HB.out | refine below_set ?_ GE421.out))⟩
               ·rw [if_neg c33] at H
                have c33b0 : decide (6 < ((rd_T48 l1 x31_2).f3)) = false := decide_eq_false c33
                clear c33
                have H' := Aside0.mk H
                clear H
                have p420 : 0 ≤ (x31_2 : Int) := of_decide_eq_true (by first | (with_reducible assumption) | assumption)
                have q420 : x31_2 < (l1.length : Int) := of_decide_eq_true (by first | (with_reducible assumption) | assumption)
                obtain ⟨ad420, e420, hx420_0, hx420_1, hx420_2, hx420_3, hx420_4, hx420_5⟩ := at_T48 HR1.out x31_2 p420 q420
                cases e420
                replace hx420_0 := (HB.out.cell (World.block_lt_of_cell? w _ hx420_0)).trans hx420_0
                replace hx420_1 := (HB.out.cell (World.block_lt_of_cell? w _ hx420_1)).trans hx420_1
                replace hx420_2 := (HB.out.cell (World.block_lt_of_cell? w _ hx420_2)).trans hx420_2
                replace hx420_3 := (HB.out.cell (World.block_lt_of_cell? w _ hx420_3)).trans hx420_3
                replace hx420_4 := (HB.out.cell (World.block_lt_of_cell? w _ hx420_4)).trans hx420_4
                replace hx420_5 := (HB.out.cell (World.block_lt_of_cell? w _ hx420_5)).trans hx420_5
                replace p420 := eq_true p420
                replace q420 := eq_true q420
                go_wp2_with (first | ((with_reducible refine gate_dst (N := 9) rfl ?_); (try (refine gate_guard (by rfl) ?_; dsimp only)); refine box_event ?hg (N := 9) ?hd (cs := #[.int .i64 0, .string (⟨#[]⟩ : ByteArray), .string (⟨#[]⟩ : ByteArray), .int .i64 0, .string (⟨#[]⟩ : ByteArray), .int .i64 0]) (t := 48) ?hr ?_; (case hd => rfl); (case hg => rfl); (case hr => first | (go_simp; done) | (go_simp; rfl)); intro gb421 hg w36 hbox hb; have n0_ := Aside0.mk (below_step (by repeat ((with_reducible exact HB.out))) hb); have n1_ := Aside0.mk (hbox); have n2_ := Aside0.mk ((by rw [hg]; exact (below_size (by repeat ((with_reducible exact HB.out)))) : w.heap.size ≤ gb421)); have n3_ := Aside0.mk ((by rw [hg]; exact (below_size (by repeat ((with_reducible exact HB.out)))) : w.heap.size ≤ gb421)); clear HB; have HB := n0_; have BK421 := n1_; have GW421 := n2_; have GE421 := n3_; clear n0_ n1_ n2_ n3_; clear hb hbox hg; have hcz37_0 : w36.cell? ⟨gb421, 0, none⟩ = some (.int .i64 0) := (blk_cell BK421.out 0).trans rfl; have hcz37_1 : w36.cell? ⟨gb421, 1, none⟩ = some (.string (⟨#[]⟩ : ByteArray)) := (blk_cell BK421.out 1).trans rfl; have hcz37_2 : w36.cell? ⟨gb421, 2, none⟩ = some (.string (⟨#[]⟩ : ByteArray)) := (blk_cell BK421.out 2).trans rfl; have hcz37_3 : w36.cell? ⟨gb421, 3, none⟩ = some (.int .i64 0) := (blk_cell BK421.out 3).trans rfl; have hcz37_4 : w36.cell? ⟨gb421, 4, none⟩ = some (.string (⟨#[]⟩ : ByteArray)) := (blk_cell BK421.out 4).trans rfl; have hcz37_5 : w36.cell? ⟨gb421, 5, none⟩ = some (.int .i64 0) := (blk_cell BK421.out 5).trans rfl; have hfz37_0 := blk_frozen BK421.out 0; have hfz37_1 := blk_frozen BK421.out 1; have hfz37_2 := blk_frozen BK421.out 2; have hfz37_3 := blk_frozen BK421.out 3; have hfz37_4 := blk_frozen BK421.out 4; have hfz37_5 := blk_frozen BK421.out 5))
                go_roundg k2
                case measure => have := HK1.out; have := HK2.out; omega
                case rel => exact ⟨(wrap64 (x5_2 + (wrap64 ((((rd_T48 l1 x31_2).f2).size : Int) + (((rd_T48 l1 x31_2).f4).size : Int))))), (wrap64 (x31_2 + 1)), (by first | rfl | (simp; done) | (simp [*]; done)), (by first | rfl | (simp; done) | (simp [*]; done)), H', ⟨by have := HK1.out; have := HK2.out; omega⟩, ⟨by repeat ((with_reducible first | exact HB.out | refine below_set ?_ GE421.out))⟩⟩
            ·rw [if_neg c26] at H
             have c26b0 : (((rd_T48 l1 x31_2).f0) == 2) = false := beq_eq_false_iff_ne.mpr c26
             have c26b1 : (((rd_T48 l1 x31_2).f0) != 2) = true := bne_iff_ne.mpr c26
             obtain rfl := Option.some.inj H
             have p420 : 0 ≤ (x31_2 : Int) := of_decide_eq_true (by first | (with_reducible assumption) | assumption)
             have q420 : x31_2 < (l1.length : Int) := of_decide_eq_true (by first | (with_reducible assumption) | assumption)
             obtain ⟨ad420, e420, hx420_0, hx420_1, hx420_2, hx420_3, hx420_4, hx420_5⟩ := at_T48 HR1.out x31_2 p420 q420
             cases e420
             replace hx420_0 := (HB.out.cell (World.block_lt_of_cell? w _ hx420_0)).trans hx420_0
             replace hx420_1 := (HB.out.cell (World.block_lt_of_cell? w _ hx420_1)).trans hx420_1
             replace hx420_2 := (HB.out.cell (World.block_lt_of_cell? w _ hx420_2)).trans hx420_2
             replace hx420_3 := (HB.out.cell (World.block_lt_of_cell? w _ hx420_3)).trans hx420_3
             replace hx420_4 := (HB.out.cell (World.block_lt_of_cell? w _ hx420_4)).trans hx420_4
             replace hx420_5 := (HB.out.cell (World.block_lt_of_cell? w _ hx420_5)).trans hx420_5
             replace p420 := eq_true p420
             replace q420 := eq_true q420
             go_wp2_with (first | ((with_reducible refine gate_dst (N := 9) rfl ?_); (try (refine gate_guard (by rfl) ?_; dsimp only)); refine box_event ?hg (N := 9) ?hd (cs := #[.int .i64 0, .string (⟨#[]⟩ : ByteArray), .string (⟨#[]⟩ : ByteArray), .int .i64 0, .string (⟨#[]⟩ : ByteArray), .int .i64 0]) (t := 48) ?hr ?_; (case hd => rfl); (case hg => rfl); (case hr => first | (go_simp; done) | (go_simp; rfl)); intro gb421 hg w38 hbox hb; have n0_ := Aside0.mk (below_step (by repeat ((with_reducible exact HB.out))) hb); have n1_ := Aside0.mk (hbox); have n2_ := Aside0.mk ((by rw [hg]; exact (below_size (by repeat ((with_reducible exact HB.out)))) : w.heap.size ≤ gb421)); have n3_ := Aside0.mk ((by rw [hg]; exact (below_size (by repeat ((with_reducible exact HB.out)))) : w.heap.size ≤ gb421)); clear HB; have HB := n0_; have BK421 := n1_; have GW421 := n2_; have GE421 := n3_; clear n0_ n1_ n2_ n3_; clear hb hbox hg; have hcz39_0 : w38.cell? ⟨gb421, 0, none⟩ = some (.int .i64 0) := (blk_cell BK421.out 0).trans rfl; have hcz39_1 : w38.cell? ⟨gb421, 1, none⟩ = some (.string (⟨#[]⟩ : ByteArray)) := (blk_cell BK421.out 1).trans rfl; have hcz39_2 : w38.cell? ⟨gb421, 2, none⟩ = some (.string (⟨#[]⟩ : ByteArray)) := (blk_cell BK421.out 2).trans rfl; have hcz39_3 : w38.cell? ⟨gb421, 3, none⟩ = some (.int .i64 0) := (blk_cell BK421.out 3).trans rfl; have hcz39_4 : w38.cell? ⟨gb421, 4, none⟩ = some (.string (⟨#[]⟩ : ByteArray)) := (blk_cell BK421.out 4).trans rfl; have hcz39_5 : w38.cell? ⟨gb421, 5, none⟩ = some (.int .i64 0) := (blk_cell BK421.out 5).trans rfl; have hfz39_0 := blk_frozen BK421.out 0; have hfz39_1 := blk_frozen BK421.out 1; have hfz39_2 := blk_frozen BK421.out 2; have hfz39_3 := blk_frozen BK421.out 3; have hfz39_4 := blk_frozen BK421.out 4; have hfz39_5 := blk_frozen BK421.out 5))
             go_ret
             exact ⟨by rfl, by repeat ((with_reducible first | exact HB.out | refine below_set ?_ GE421.out))⟩
          ·rw [if_neg c13] at H
           exact absurd H (by simp)
         ·rw [if_neg c12] at H
          exact absurd H (by simp)
        ·rw [if_neg c11] at H
         have c11b0 : decide (x31_2 < (l1.length : Int)) = false := decide_eq_false c11
         clear c11
         by_cases c40 : (l0.length : Int) ≤ 100
         ·rw [if_pos c40] at H
          have c40b0 : decide ((l0.length : Int) ≤ 100) = true := decide_eq_true c40
          have c40b1 : decide (l0.length ≤ 100) = true := decide_eq_true (by omega)
          clear c40
          by_cases c41 : (l1.length : Int) ≤ 100
          ·rw [if_pos c41] at H
           have c41b0 : decide ((l1.length : Int) ≤ 100) = true := decide_eq_true c41
           have c41b1 : decide (l1.length ≤ 100) = true := decide_eq_true (by omega)
           clear c41
           obtain rfl := Option.some.inj H
           go_wp2
           go_ret
           exact ⟨by rfl, by repeat ((with_reducible exact HB.out))⟩
          ·rw [if_neg c41] at H
           have c41b0 : decide ((l1.length : Int) ≤ 100) = false := decide_eq_false c41
           have c41b1 : decide (l1.length ≤ 100) = false := decide_eq_false (by omega)
           clear c41
           obtain rfl := Option.some.inj H
           go_wp2
           go_ret
           exact ⟨by rfl, by repeat ((with_reducible exact HB.out))⟩
         ·rw [if_neg c40] at H
          have c40b0 : decide ((l0.length : Int) ≤ 100) = false := decide_eq_false c40
          have c40b1 : decide (l0.length ≤ 100) = false := decide_eq_false (by omega)
          clear c40
          obtain rfl := Option.some.inj H
          go_wp2
          go_ret
          exact ⟨by rfl, by repeat ((with_reducible exact HB.out))⟩

end Go.Proofs.YtclmjmfcggkpaaaGreatDoor.PX
