import Derived.Test.YtclmjmfcggkpaaaGreatDoorU4
namespace Go.Proofs.YtclmjmfcggkpaaaGreatDoor.PX
open Go.RowKit Go.Proofs.YtclmjmfcggkpaaaGreatDoorW.PrintWords Go.Proofs.YtclmjmfcggkpaaaGreatDoorW.PrintLast Go.Proofs.YtclmjmfcggkpaaaGreatDoorW.PrintMore
attribute [local go_sem] max2_int min2_int max_two min_two max_three min_three max_four min_four   -- for this text's walks alone
set_option linter.unusedVariables false
set_option linter.unusedSimpArgs false

/-! ### spec_HasName: function 37 -/
def spec_HasName.l0 : Nat → ByteArray → List (S65) → Int → Int → Option (Bool)
 | 0, _, _, _, _ => none
 | k + 1, x1, x7, x8, x9 => if x9 < x8 then (if 0 ≤ x9 then (if x9 < (x7.length : Int) then (if ((rd_T65 x7 x9).f0).toList = x1.toList then (some true) else (spec_HasName.l0 k x1 x7 x8 (wrap64 (x9 + 1)))) else (none)) else (none)) else (some false)
def spec_HasName.f (k : Nat) (l0 : List (S65)) (a1 : ByteArray) : Option (Bool) := spec_HasName.l0 k a1 l0 (l0.length : Int) 0
set_option maxHeartbeats 8000000 in
set_option maxRecDepth 100000 in
theorem spec_HasName.calls (k : Nat) (A0 : Option Addr) (c0 : Nat) (l0 : List (S65)) (a1 : ByteArray) (r : Bool) (w : World) (hr0 : Kd.C k65 w A0 l0.length l0) (hc0 : l0.length ≤ c0) (h : spec_HasName.f k l0 a1 = some r) :
 Calls Tryz.prog 37 #[.slice A0 l0.length c0, .string a1] w fun e w' => e = .returned (.bool r) ∧ Below w.heap.size w w' := by
 have hu65 := Tryz.underlying65
 have HR0 := Aside0.mk hr0
 have HC0 := Aside0.mk hc0
 clear hr0 hc0
 have HB := Aside0.mk (Below.refl w.heap.size w)
 have H : (spec_HasName.l0 k a1 l0 (l0.length : Int) 0) = some r := h
 clear h
 have H' := Aside0.mk H
 clear H
 go_enter Tryz.func37, Tryz.ntmps37
 go_wp2
 go_loopg [9] k (fun kq v9 w' => ∃ (x9_1 : Int), v9 = .int .i64 x9_1 ∧ Aside0 (spec_HasName.l0 kq a1 l0 (l0.length : Int) x9_1 = some r) ∧ Aside0 (kq ≤ k) ∧ Aside0 (Below w.heap.size w w'))
 case atStart => exact ⟨(0), (by first | rfl | (simp; done) | (simp [*]; done)), H', ⟨Nat.le_refl _⟩, ⟨by repeat ((with_reducible exact HB.out))⟩⟩
 case round =>
  clear H'
  try clear p2
  obtain ⟨x9_1, rfl, HA, HK1, HB⟩ := hrel
  cases gk with
  | zero => exact absurd HA.out (by simp [spec_HasName.l0])
  | succ k1 =>
    have H := HA.out
    clear HA
    simp only [spec_HasName.l0] at H
    by_cases c3 : x9_1 < (l0.length : Int)
    ·rw [if_pos c3] at H
     have c3b0 : decide (x9_1 < (l0.length : Int)) = true := decide_eq_true c3
     clear c3
     by_cases c4 : 0 ≤ x9_1
     ·rw [if_pos c4] at H
      have c4b0 : decide (0 ≤ x9_1) = true := decide_eq_true c4
      clear c4
      by_cases c5 : x9_1 < (l0.length : Int)
      ·rw [if_pos c5] at H
       have c5b0 : decide (x9_1 < (l0.length : Int)) = true := decide_eq_true c5
       clear c5
       by_cases c6 : ((rd_T65 l0 x9_1).f0).toList = a1.toList
       ·rw [if_pos c6] at H
        have c6b0 : (((rd_T65 l0 x9_1).f0).toList == a1.toList) = true := beq_iff_eq.mpr c6
        have c6b1 : (((rd_T65 l0 x9_1).f0).toList != a1.toList) = false := bne_eq_false_iff_eq.mpr c6
        clear c6
        obtain rfl := Option.some.inj H
        have p449 : 0 ≤ (x9_1 : Int) := of_decide_eq_true (by first | (with_reducible assumption) | assumption)
        have q449 : x9_1 < (l0.length : Int) := of_decide_eq_true (by first | (with_reducible assumption) | assumption)
        obtain ⟨ad449, e449, hx449_0, hx449_1, hx449_2⟩ := at_T65 HR0.out x9_1 p449 q449
        cases e449
        replace hx449_0 := (HB.out.cell (World.block_lt_of_cell? w _ hx449_0)).trans hx449_0
        replace hx449_1 := (HB.out.cell (World.block_lt_of_cell? w _ hx449_1)).trans hx449_1
        replace hx449_2 := (HB.out.cell (World.block_lt_of_cell? w _ hx449_2)).trans hx449_2
        replace p449 := eq_true p449
        replace q449 := eq_true q449
        go_wp2_with (first | ((with_reducible refine gate_dst (N := 6) rfl ?_); refine box_event ?hg (N := 6) ?hd (cs := #[.string (⟨#[]⟩ : ByteArray), .string (⟨#[]⟩ : ByteArray), .bool false]) (t := 65) ?hr ?_; (case hd => rfl); (case hg => rfl); (case hr => first | (go_simp; done) | (go_simp; rfl)); intro gb450 hg w7 hbox hb; have n0_ := Aside0.mk (below_step (by repeat ((with_reducible exact HB.out))) hb); have n1_ := Aside0.mk (hbox); have n2_ := Aside0.mk ((by rw [hg]; exact (below_size (by repeat ((with_reducible exact HB.out)))) : w.heap.size ≤ gb450)); have n3_ := Aside0.mk ((by rw [hg]; exact (below_size (by repeat ((with_reducible exact HB.out)))) : w.heap.size ≤ gb450)); clear HB; have HB := n0_; have BK450 := n1_; have GW450 := n2_; have GE450 := n3_; clear n0_ n1_ n2_ n3_; clear hb hbox hg; have hcz8_0 : w7.cell? ⟨gb450, 0, none⟩ = some (.string (⟨#[]⟩ : ByteArray)) := (blk_cell BK450.out 0).trans rfl; have hcz8_1 : w7.cell? ⟨gb450, 1, none⟩ = some (.string (⟨#[]⟩ : ByteArray)) := (blk_cell BK450.out 1).trans rfl; have hcz8_2 : w7.cell? ⟨gb450, 2, none⟩ = some (.bool false) := (blk_cell BK450.out 2).trans rfl; have hfz8_0 := blk_frozen BK450.out 0; have hfz8_1 := blk_frozen BK450.out 1; have hfz8_2 := blk_frozen BK450.out 2))
        go_ret
        exact ⟨by rfl, by repeat ((with_reducible first | exact HB.out | refine below_set ?_ GE450.out))⟩
       ·rw [if_neg c6] at H
        have c6b0 : (((rd_T65 l0 x9_1).f0).toList == a1.toList) = false := beq_eq_false_iff_ne.mpr c6
        have c6b1 : (((rd_T65 l0 x9_1).f0).toList != a1.toList) = true := bne_iff_ne.mpr c6
        have H' := Aside0.mk H
        clear H
        have p449 : 0 ≤ (x9_1 : Int) := of_decide_eq_true (by first | (with_reducible assumption) | assumption)
        have q449 : x9_1 < (l0.length : Int) := of_decide_eq_true (by first | (with_reducible assumption) | assumption)
        obtain ⟨ad449, e449, hx449_0, hx449_1, hx449_2⟩ := at_T65 HR0.out x9_1 p449 q449
        cases e449
        replace hx449_0 := (HB.out.cell (World.block_lt_of_cell? w _ hx449_0)).trans hx449_0
        replace hx449_1 := (HB.out.cell (World.block_lt_of_cell? w _ hx449_1)).trans hx449_1
        replace hx449_2 := (HB.out.cell (World.block_lt_of_cell? w _ hx449_2)).trans hx449_2
        replace p449 := eq_true p449
        replace q449 := eq_true q449
        go_wp2_with (first | ((with_reducible refine gate_dst (N := 6) rfl ?_); refine box_event ?hg (N := 6) ?hd (cs := #[.string (⟨#[]⟩ : ByteArray), .string (⟨#[]⟩ : ByteArray), .bool false]) (t := 65) ?hr ?_; (case hd => rfl); (case hg => rfl); (case hr => first | (go_simp; done) | (go_simp; rfl)); intro gb450 hg w9 hbox hb; have n0_ := Aside0.mk (below_step (by repeat ((with_reducible exact HB.out))) hb); have n1_ := Aside0.mk (hbox); have n2_ := Aside0.mk ((by rw [hg]; exact (below_size (by repeat ((with_reducible exact HB.out)))) : w.heap.size ≤ gb450)); have n3_ := Aside0.mk ((by rw [hg]; exact (below_size (by repeat ((with_reducible exact HB.out)))) : w.heap.size ≤ gb450)); clear HB; have HB := n0_; have BK450 := n1_; have GW450 := n2_; have GE450 := n3_; clear n0_ n1_ n2_ n3_; clear hb hbox hg; have hcz10_0 : w9.cell? ⟨gb450, 0, none⟩ = some (.string (⟨#[]⟩ : ByteArray)) := (blk_cell BK450.out 0).trans rfl; have hcz10_1 : w9.cell? ⟨gb450, 1, none⟩ = some (.string (⟨#[]⟩ : ByteArray)) := (blk_cell BK450.out 1).trans rfl; have hcz10_2 : w9.cell? ⟨gb450, 2, none⟩ = some (.bool false) := (blk_cell BK450.out 2).trans rfl; have hfz10_0 := blk_frozen BK450.out 0; have hfz10_1 := blk_frozen BK450.out 1; have hfz10_2 := blk_frozen BK450.out 2))
        go_roundg k1
        case measure => have := HK1.out; omega
        case rel => exact ⟨(wrap64 (x9_1 + 1)), (by first | rfl | (simp; done) | (simp [*]; done)), H', ⟨by have := HK1.out; omega⟩, ⟨by repeat ((with_reducible first | exact HB.out | refine below_set ?_ GE450.out))⟩⟩
      ·rw [if_neg c5] at H
       exact absurd H (by simp)
     ·rw [if_neg c4] at H
      exact absurd H (by simp)
    ·rw [if_neg c3] at H
     have c3b0 : decide (x9_1 < (l0.length : Int)) = false := decide_eq_false c3
     clear c3
     obtain rfl := Option.some.inj H
     go_wp2
     go_ret
     exact ⟨by rfl, by repeat ((with_reducible exact HB.out))⟩

end Go.Proofs.YtclmjmfcggkpaaaGreatDoor.PX
namespace Go.Proofs.YtclmjmfcggkpaaaGreatDoor.PX
open Go.RowKit Go.Proofs.YtclmjmfcggkpaaaGreatDoorW.PrintWords Go.Proofs.YtclmjmfcggkpaaaGreatDoorW.PrintLast Go.Proofs.YtclmjmfcggkpaaaGreatDoorW.PrintMore
attribute [local go_sem] max2_int min2_int max_two min_two max_three min_three max_four min_four   -- for this text's walks alone
set_option linter.unusedVariables false
set_option linter.unusedSimpArgs false

/-! ### spec_HasHeader: function 38 -/
def spec_HasHeader.l0 : Nat → ByteArray → List (S73) → Int → Int → Option (Bool)
 | 0, _, _, _, _ => none
 | k + 1, x1, x7, x8, x9 => if x9 < x8 then (if 0 ≤ x9 then (if x9 < (x7.length : Int) then (if ((rd_T73 x7 x9).f0).toList = x1.toList then (some true) else (spec_HasHeader.l0 k x1 x7 x8 (wrap64 (x9 + 1)))) else (none)) else (none)) else (some false)
def spec_HasHeader.f (k : Nat) (l0 : List (S73)) (a1 : ByteArray) : Option (Bool) := spec_HasHeader.l0 k a1 l0 (l0.length : Int) 0
set_option maxHeartbeats 8000000 in
set_option maxRecDepth 100000 in
theorem spec_HasHeader.calls (k : Nat) (A0 : Option Addr) (c0 : Nat) (l0 : List (S73)) (a1 : ByteArray) (r : Bool) (w : World) (hr0 : Kd.C k73 w A0 l0.length l0) (hc0 : l0.length ≤ c0) (h : spec_HasHeader.f k l0 a1 = some r) :
 Calls Tryz.prog 38 #[.slice A0 l0.length c0, .string a1] w fun e w' => e = .returned (.bool r) ∧ Below w.heap.size w w' := by
 have hu73 := Tryz.underlying73
 have HR0 := Aside0.mk hr0
 have HC0 := Aside0.mk hc0
 clear hr0 hc0
 have HB := Aside0.mk (Below.refl w.heap.size w)
 have H : (spec_HasHeader.l0 k a1 l0 (l0.length : Int) 0) = some r := h
 clear h
 have H' := Aside0.mk H
 clear H
 go_enter Tryz.func38, Tryz.ntmps38
 go_wp2
 go_loopg [9] k (fun kq v9 w' => ∃ (x9_1 : Int), v9 = .int .i64 x9_1 ∧ Aside0 (spec_HasHeader.l0 kq a1 l0 (l0.length : Int) x9_1 = some r) ∧ Aside0 (kq ≤ k) ∧ Aside0 (Below w.heap.size w w'))
 case atStart => exact ⟨(0), (by first | rfl | (simp; done) | (simp [*]; done)), H', ⟨Nat.le_refl _⟩, ⟨by repeat ((with_reducible exact HB.out))⟩⟩
 case round =>
  clear H'
  try clear p2
  obtain ⟨x9_1, rfl, HA, HK1, HB⟩ := hrel
  cases gk with
  | zero => exact absurd HA.out (by simp [spec_HasHeader.l0])
  | succ k1 =>
    have H := HA.out
    clear HA
    simp only [spec_HasHeader.l0] at H
    by_cases c3 : x9_1 < (l0.length : Int)
    ·rw [if_pos c3] at H
     have c3b0 : decide (x9_1 < (l0.length : Int)) = true := decide_eq_true c3
     clear c3
     by_cases c4 : 0 ≤ x9_1
     ·rw [if_pos c4] at H
      have c4b0 : decide (0 ≤ x9_1) = true := decide_eq_true c4
      clear c4
      by_cases c5 : x9_1 < (l0.length : Int)
      ·rw [if_pos c5] at H
       have c5b0 : decide (x9_1 < (l0.length : Int)) = true := decide_eq_true c5
       clear c5
       by_cases c6 : ((rd_T73 l0 x9_1).f0).toList = a1.toList
       ·rw [if_pos c6] at H
        have c6b0 : (((rd_T73 l0 x9_1).f0).toList == a1.toList) = true := beq_iff_eq.mpr c6
        have c6b1 : (((rd_T73 l0 x9_1).f0).toList != a1.toList) = false := bne_eq_false_iff_eq.mpr c6
        clear c6
        obtain rfl := Option.some.inj H
        have p451 : 0 ≤ (x9_1 : Int) := of_decide_eq_true (by first | (with_reducible assumption) | assumption)
        have q451 : x9_1 < (l0.length : Int) := of_decide_eq_true (by first | (with_reducible assumption) | assumption)
        obtain ⟨ad451, A451_1, c451_1, e451, hx451_0, hx451_1, hl451_1, hi451_1⟩ := at_T73 HR0.out x9_1 p451 q451
        cases e451
        replace hx451_0 := (HB.out.cell (World.block_lt_of_cell? w _ hx451_0)).trans hx451_0
        replace hx451_1 := (HB.out.cell (World.block_lt_of_cell? w _ hx451_1)).trans hx451_1
        have HR451_1 := Aside0.mk hi451_1
        have HC451_1 := Aside0.mk hl451_1
        clear hi451_1 hl451_1
        replace p451 := eq_true p451
        replace q451 := eq_true q451
        go_wp2_with (first | ((with_reducible refine gate_dst (N := 6) rfl ?_); refine box_event ?hg (N := 6) ?hd (cs := #[.string (⟨#[]⟩ : ByteArray), .slice none 0 0]) (t := 73) ?hr ?_; (case hd => rfl); (case hg => rfl); (case hr => first | (go_simp; done) | (go_simp; rfl)); intro gb452 hg w7 hbox hb; have n0_ := Aside0.mk (below_step (by repeat ((with_reducible exact HB.out))) hb); have n1_ := Aside0.mk (hbox); have n2_ := Aside0.mk ((by rw [hg]; exact (below_size (by repeat ((with_reducible exact HB.out)))) : w.heap.size ≤ gb452)); have n3_ := Aside0.mk ((by rw [hg]; exact (below_size (by repeat ((with_reducible exact HB.out)))) : w.heap.size ≤ gb452)); clear HB; have HB := n0_; have BK452 := n1_; have GW452 := n2_; have GE452 := n3_; clear n0_ n1_ n2_ n3_; clear hb hbox hg; have hcz8_0 : w7.cell? ⟨gb452, 0, none⟩ = some (.string (⟨#[]⟩ : ByteArray)) := (blk_cell BK452.out 0).trans rfl; have hcz8_1 : w7.cell? ⟨gb452, 1, none⟩ = some (.slice none 0 0) := (blk_cell BK452.out 1).trans rfl; have hfz8_0 := blk_frozen BK452.out 0; have hfz8_1 := blk_frozen BK452.out 1))
        go_ret
        exact ⟨by rfl, by repeat ((with_reducible first | exact HB.out | refine below_set ?_ GE452.out))⟩
       ·rw [if_neg c6] at H
        have c6b0 : (((rd_T73 l0 x9_1).f0).toList == a1.toList) = false := beq_eq_false_iff_ne.mpr c6
        have c6b1 : (((rd_T73 l0 x9_1).f0).toList != a1.toList) = true := bne_iff_ne.mpr c6
        have H' := Aside0.mk H
        clear H
        have p451 : 0 ≤ (x9_1 : Int) := of_decide_eq_true (by first | (with_reducible assumption) | assumption)
        have q451 : x9_1 < (l0.length : Int) := of_decide_eq_true (by first | (with_reducible assumption) | assumption)
        obtain ⟨ad451, A451_1, c451_1, e451, hx451_0, hx451_1, hl451_1, hi451_1⟩ := at_T73 HR0.out x9_1 p451 q451
        cases e451
        replace hx451_0 := (HB.out.cell (World.block_lt_of_cell? w _ hx451_0)).trans hx451_0
        replace hx451_1 := (HB.out.cell (World.block_lt_of_cell? w _ hx451_1)).trans hx451_1
        have HR451_1 := Aside0.mk hi451_1
        have HC451_1 := Aside0.mk hl451_1
        clear hi451_1 hl451_1
        replace p451 := eq_true p451
        replace q451 := eq_true q451
        go_wp2_with (first | ((with_reducible refine gate_dst (N := 6) rfl ?_); refine box_event ?hg (N := 6) ?hd (cs := #[.string (⟨#[]⟩ : ByteArray), .slice none 0 0]) (t := 73) ?hr ?_; (case hd => rfl); (case hg => rfl); (case hr => first | (go_simp; done) | (go_simp; rfl)); intro gb452 hg w9 hbox hb; have n0_ := Aside0.mk (below_step (by repeat ((with_reducible exact HB.out))) hb); have n1_ := Aside0.mk (hbox); have n2_ := Aside0.mk ((by rw [hg]; exact (below_size (by repeat ((with_reducible exact HB.out)))) : w.heap.size ≤ gb452)); have n3_ := Aside0.mk ((by rw [hg]; exact (below_size (by repeat ((with_reducible exact HB.out)))) : w.heap.size ≤ gb452)); clear HB; have HB := n0_; have BK452 := n1_; have GW452 := n2_; have GE452 := n3_; clear n0_ n1_ n2_ n3_; clear hb hbox hg; have hcz10_0 : w9.cell? ⟨gb452, 0, none⟩ = some (.string (⟨#[]⟩ : ByteArray)) := (blk_cell BK452.out 0).trans rfl; have hcz10_1 : w9.cell? ⟨gb452, 1, none⟩ = some (.slice none 0 0) := (blk_cell BK452.out 1).trans rfl; have hfz10_0 := blk_frozen BK452.out 0; have hfz10_1 := blk_frozen BK452.out 1))
        go_roundg k1
        case measure => have := HK1.out; omega
        case rel => exact ⟨(wrap64 (x9_1 + 1)), (by first | rfl | (simp; done) | (simp [*]; done)), H', ⟨by have := HK1.out; omega⟩, ⟨by repeat ((with_reducible first | exact HB.out | refine below_set ?_ GE452.out))⟩⟩
      ·rw [if_neg c5] at H
       exact absurd H (by simp)
     ·rw [if_neg c4] at H
      exact absurd H (by simp)
    ·rw [if_neg c3] at H
     have c3b0 : decide (x9_1 < (l0.length : Int)) = false := decide_eq_false c3
     clear c3
     obtain rfl := Option.some.inj H
     go_wp2
     go_ret
     exact ⟨by rfl, by repeat ((with_reducible exact HB.out))⟩

end Go.Proofs.YtclmjmfcggkpaaaGreatDoor.PX
