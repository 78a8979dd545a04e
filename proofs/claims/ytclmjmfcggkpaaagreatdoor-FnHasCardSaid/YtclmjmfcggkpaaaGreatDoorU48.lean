import Derived.Test.YtclmjmfcggkpaaaGreatDoorU4
import Derived.Test.YtclmjmfcggkpaaaGreatDoorU46
namespace Go.Proofs.YtclmjmfcggkpaaaGreatDoor.PX
open Go.RowKit Go.Proofs.YtclmjmfcggkpaaaGreatDoorW.PrintWords Go.Proofs.YtclmjmfcggkpaaaGreatDoorW.PrintLast Go.Proofs.YtclmjmfcggkpaaaGreatDoorW.PrintMore
attribute [local go_sem] max2_int min2_int max_two min_two max_three min_three max_four min_four   -- for this text's walks alone
set_option linter.unusedVariables false
set_option linter.unusedSimpArgs false

/-! ### spec_AreFilled: function 34 -/
def spec_AreFilled.l0 : Nat → List (S48) → Int → Int → Option (Bool)
 | 0, _, _, _ => none
 | k + 1, x5, x6, x7 => if x7 < x6 then (if 0 ≤ x7 then (if x7 < (x5.length : Int) then ((spec_Text.f k ((rd_T48 x5 x7).f3) ((rd_T48 x5 x7).f4) ((rd_T48 x5 x7).f5)).bind fun t448 => (if t448.toList = ([] : List UInt8) then (some false) else (spec_AreFilled.l0 k x5 x6 (wrap64 (x7 + 1))))) else (none)) else (none)) else (some true)
def spec_AreFilled.f (k : Nat) (l0 : List (S48)) : Option (Bool) := spec_AreFilled.l0 k l0 (l0.length : Int) 0
set_option maxHeartbeats 8000000 in
set_option maxRecDepth 100000 in
theorem spec_AreFilled.calls (k : Nat) (A0 : Option Addr) (c0 : Nat) (l0 : List (S48)) (r : Bool) (w : World) (hr0 : Kd.C k48 w A0 l0.length l0) (hc0 : l0.length ≤ c0) (h : spec_AreFilled.f k l0 = some r) :
 Calls Tryz.prog 34 #[.slice A0 l0.length c0] w fun e w' => e = .returned (.bool r) ∧ Below w.heap.size w w' := by
 have hu48 := Tryz.underlying48
 have HR0 := Aside0.mk hr0
 have HC0 := Aside0.mk hc0
 clear hr0 hc0
 have HB := Aside0.mk (Below.refl w.heap.size w)
 have H : (spec_AreFilled.l0 k l0 (l0.length : Int) 0) = some r := h
 clear h
 have H' := Aside0.mk H
 clear H
 go_enter Tryz.func34, Tryz.ntmps34
 go_wp2
 go_loopg [7] k (fun kq v7 w' => ∃ (x7_1 : Int), v7 = .int .i64 x7_1 ∧ Aside0 (spec_AreFilled.l0 kq l0 (l0.length : Int) x7_1 = some r) ∧ Aside0 (kq ≤ k) ∧ Aside0 (Below w.heap.size w w'))
 case atStart => exact ⟨(0), (by first | rfl | (simp; done) | (simp [*]; done)), H', ⟨Nat.le_refl _⟩, ⟨by repeat ((with_reducible exact HB.out))⟩⟩
 case round =>
  clear H'
  obtain ⟨x7_1, rfl, HA, HK1, HB⟩ := hrel
  cases gk with
  | zero => exact absurd HA.out (by simp [spec_AreFilled.l0])
  | succ k1 =>
    have H := HA.out
    clear HA
    simp only [spec_AreFilled.l0] at H
    by_cases c2 : x7_1 < (l0.length : Int)
    ·rw [if_pos c2] at H
     have c2b0 : decide (x7_1 < (l0.length : Int)) = true := decide_eq_true c2
     clear c2
     by_cases c3 : 0 ≤ x7_1
     ·rw [if_pos c3] at H
      have c3b0 : decide (0 ≤ x7_1) = true := decide_eq_true c3
      clear c3
      by_cases c4 : x7_1 < (l0.length : Int)
      ·rw [if_pos c4] at H
       have c4b0 : decide (x7_1 < (l0.length : Int)) = true := decide_eq_true c4
       clear c4
       replace H := Option.bind_eq_some_iff.mp H
       obtain ⟨t448, A50, H⟩ := H
       replace H : (if t448.toList = ([] : List UInt8) then (some false) else (spec_AreFilled.l0 k1 l0 (l0.length : Int) (wrap64 (x7_1 + 1)))) = some r := H
       have A5 := Aside0.mk A50
       clear A50
       by_cases c6 : t448.toList = ([] : List UInt8)
       ·rw [if_pos c6] at H
        have c6b0 : (t448.toList == ([] : List UInt8)) = true := beq_iff_eq.mpr c6
        have c6b1 : (t448.toList != ([] : List UInt8)) = false := bne_eq_false_iff_eq.mpr c6
        clear c6
        obtain rfl := Option.some.inj H
        have p446 : 0 ≤ (x7_1 : Int) := of_decide_eq_true (by first | (with_reducible assumption) | assumption)
        have q446 : x7_1 < (l0.length : Int) := of_decide_eq_true (by first | (with_reducible assumption) | assumption)
        obtain ⟨ad446, e446, hx446_0, hx446_1, hx446_2, hx446_3, hx446_4, hx446_5⟩ := at_T48 HR0.out x7_1 p446 q446
        cases e446
        replace hx446_0 := (HB.out.cell (World.block_lt_of_cell? w _ hx446_0)).trans hx446_0
        replace hx446_1 := (HB.out.cell (World.block_lt_of_cell? w _ hx446_1)).trans hx446_1
        replace hx446_2 := (HB.out.cell (World.block_lt_of_cell? w _ hx446_2)).trans hx446_2
        replace hx446_3 := (HB.out.cell (World.block_lt_of_cell? w _ hx446_3)).trans hx446_3
        replace hx446_4 := (HB.out.cell (World.block_lt_of_cell? w _ hx446_4)).trans hx446_4
        replace hx446_5 := (HB.out.cell (World.block_lt_of_cell? w _ hx446_5)).trans hx446_5
        replace p446 := eq_true p446
        replace q446 := eq_true q446
        go_wp2_with (first | ((with_reducible refine gate_dst (N := 4) rfl ?_); refine box_event ?hg (N := 4) ?hd (cs := #[.int .i64 0, .string (⟨#[]⟩ : ByteArray), .string (⟨#[]⟩ : ByteArray), .int .i64 0, .string (⟨#[]⟩ : ByteArray), .int .i64 0]) (t := 48) ?hr ?_; (case hd => rfl); (case hg => rfl); (case hr => first | (go_simp; done) | (go_simp; rfl)); intro gb447 hg w7 hbox hb; have n0_ := Aside0.mk (below_step (by repeat ((with_reducible exact HB.out))) hb); have n1_ := Aside0.mk (hbox); have n2_ := Aside0.mk ((by rw [hg]; exact (below_size (by repeat ((with_reducible exact HB.out)))) : w.heap.size ≤ gb447)); have n3_ := Aside0.mk ((by rw [hg]; exact (below_size (by repeat ((with_reducible exact HB.out)))) : w.heap.size ≤ gb447)); clear HB; have HB := n0_; have BK447 := n1_; have GW447 := n2_; have GE447 := n3_; clear n0_ n1_ n2_ n3_; clear hb hbox hg; have hcz8_0 : w7.cell? ⟨gb447, 0, none⟩ = some (.int .i64 0) := (blk_cell BK447.out 0).trans rfl; have hcz8_1 : w7.cell? ⟨gb447, 1, none⟩ = some (.string (⟨#[]⟩ : ByteArray)) := (blk_cell BK447.out 1).trans rfl; have hcz8_2 : w7.cell? ⟨gb447, 2, none⟩ = some (.string (⟨#[]⟩ : ByteArray)) := (blk_cell BK447.out 2).trans rfl; have hcz8_3 : w7.cell? ⟨gb447, 3, none⟩ = some (.int .i64 0) := (blk_cell BK447.out 3).trans rfl; have hcz8_4 : w7.cell? ⟨gb447, 4, none⟩ = some (.string (⟨#[]⟩ : ByteArray)) := (blk_cell BK447.out 4).trans rfl; have hcz8_5 : w7.cell? ⟨gb447, 5, none⟩ = some (.int .i64 0) := (blk_cell BK447.out 5).trans rfl; have hfz8_0 := blk_frozen BK447.out 0; have hfz8_1 := blk_frozen BK447.out 1; have hfz8_2 := blk_frozen BK447.out 2; have hfz8_3 := blk_frozen BK447.out 3; have hfz8_4 := blk_frozen BK447.out 4; have hfz8_5 := blk_frozen BK447.out 5) | ((with_reducible refine gate_callee (f := 42) rfl ?_); refine goesL_ (some 17) rfl rfl Tryz.func42 (by kernel_rfl) rfl #[.int .i64 ((rd_T48 l0 x7_1).f3), .string ((rd_T48 l0 x7_1).f4), .int .i64 ((rd_T48 l0 x7_1).f5)] rfl (by (try simp only [List.map_toArray, List.map_cons, List.map_nil]); rfl) ?_; (with_reducible refine (spec_Text.calls k1 ((rd_T48 l0 x7_1).f3) ((rd_T48 l0 x7_1).f4) ((rd_T48 l0 x7_1).f5) t448 _ A5.out).mono ?_); rintro e w9 ⟨rfl, hb⟩; refine ⟨_, rfl, ?_⟩; have n0_ := Aside0.mk (blk_below (g := gb447) (o := .cells #[.int .i64 ((rd_T48 l0 x7_1).f0), .string ((rd_T48 l0 x7_1).f1), .string ((rd_T48 l0 x7_1).f2), .int .i64 ((rd_T48 l0 x7_1).f3), .string ((rd_T48 l0 x7_1).f4), .int .i64 ((rd_T48 l0 x7_1).f5)] 48 (0, 0)) (by (with_reducible repeat (fail)); refine blk_put (cs := #[.int .i64 ((rd_T48 l0 x7_1).f0), .string ((rd_T48 l0 x7_1).f1), .string ((rd_T48 l0 x7_1).f2), .int .i64 ((rd_T48 l0 x7_1).f3), .string ((rd_T48 l0 x7_1).f4), .int .i64 0]) ?_ 5 _ rfl; (with_reducible repeat (fail)); refine blk_put (cs := #[.int .i64 ((rd_T48 l0 x7_1).f0), .string ((rd_T48 l0 x7_1).f1), .string ((rd_T48 l0 x7_1).f2), .int .i64 ((rd_T48 l0 x7_1).f3), .string (⟨#[]⟩ : ByteArray), .int .i64 0]) ?_ 4 _ rfl; (with_reducible repeat (fail)); refine blk_put (cs := #[.int .i64 ((rd_T48 l0 x7_1).f0), .string ((rd_T48 l0 x7_1).f1), .string ((rd_T48 l0 x7_1).f2), .int .i64 0, .string (⟨#[]⟩ : ByteArray), .int .i64 0]) ?_ 3 _ rfl; (with_reducible repeat (fail)); refine blk_put (cs := #[.int .i64 ((rd_T48 l0 x7_1).f0), .string ((rd_T48 l0 x7_1).f1), .string (⟨#[]⟩ : ByteArray), .int .i64 0, .string (⟨#[]⟩ : ByteArray), .int .i64 0]) ?_ 2 _ rfl; (with_reducible repeat (fail)); refine blk_put (cs := #[.int .i64 ((rd_T48 l0 x7_1).f0), .string (⟨#[]⟩ : ByteArray), .string (⟨#[]⟩ : ByteArray), .int .i64 0, .string (⟨#[]⟩ : ByteArray), .int .i64 0]) ?_ 1 _ rfl; (with_reducible repeat (fail)); refine blk_put (cs := #[.int .i64 0, .string (⟨#[]⟩ : ByteArray), .string (⟨#[]⟩ : ByteArray), .int .i64 0, .string (⟨#[]⟩ : ByteArray), .int .i64 0]) ?_ 0 _ rfl; (with_reducible repeat (fail)); exact BK447.out) hb); have n1_ := Aside0.mk (below_step (by repeat ((with_reducible first | exact HB.out | refine below_set ?_ GE447.out))) hb); clear BK447; clear HB; have BK447 := n0_; have HB := n1_; clear n0_ n1_; (try clear hb); (try clear hb2); (try clear hk); (try clear hi)))
        go_ret
        exact ⟨by rfl, by repeat ((with_reducible exact HB.out))⟩
       ·rw [if_neg c6] at H
        have c6b0 : (t448.toList == ([] : List UInt8)) = false := beq_eq_false_iff_ne.mpr c6
        have c6b1 : (t448.toList != ([] : List UInt8)) = true := bne_iff_ne.mpr c6
        have H' := Aside0.mk H
        clear H
        have p446 : 0 ≤ (x7_1 : Int) := of_decide_eq_true (by first | (with_reducible assumption) | assumption)
        have q446 : x7_1 < (l0.length : Int) := of_decide_eq_true (by first | (with_reducible assumption) | assumption)
        obtain ⟨ad446, e446, hx446_0, hx446_1, hx446_2, hx446_3, hx446_4, hx446_5⟩ := at_T48 HR0.out x7_1 p446 q446
        cases e446
        replace hx446_0 := (HB.out.cell (World.block_lt_of_cell? w _ hx446_0)).trans hx446_0
        replace hx446_1 := (HB.out.cell (World.block_lt_of_cell? w _ hx446_1)).trans hx446_1
        replace hx446_2 := (HB.out.cell (World.block_lt_of_cell? w _ hx446_2)).trans hx446_2
        replace hx446_3 := (HB.out.cell (World.block_lt_of_cell? w _ hx446_3)).trans hx446_3
        replace hx446_4 := (HB.out.cell (World.block_lt_of_cell? w _ hx446_4)).trans hx446_4
        replace hx446_5 := (HB.out.cell (World.block_lt_of_cell? w _ hx446_5)).trans hx446_5
        replace p446 := eq_true p446
        replace q446 := eq_true q446
        go_wp2_with (first | ((with_reducible refine gate_dst (N := 4) rfl ?_); refine box_event ?hg (N := 4) ?hd (cs := #[.int .i64 0, .string (⟨#[]⟩ : ByteArray), .string (⟨#[]⟩ : ByteArray), .int .i64 0, .string (⟨#[]⟩ : ByteArray), .int .i64 0]) (t := 48) ?hr ?_; (case hd => rfl); (case hg => rfl); (case hr => first | (go_simp; done) | (go_simp; rfl)); intro gb447 hg w10 hbox hb; have n0_ := Aside0.mk (below_step (by repeat ((with_reducible exact HB.out))) hb); have n1_ := Aside0.mk (hbox); have n2_ := Aside0.mk ((by rw [hg]; exact (below_size (by repeat ((with_reducible exact HB.out)))) : w.heap.size ≤ gb447)); have n3_ := Aside0.mk ((by rw [hg]; exact (below_size (by repeat ((with_reducible exact HB.out)))) : w.heap.size ≤ gb447)); clear HB; have HB := n0_; have BK447 := n1_; have GW447 := n2_; have GE447 := n3_; clear n0_ n1_ n2_ n3_; clear hb hbox hg; have hcz11_0 : w10.cell? ⟨gb447, 0, none⟩ = some (.int .i64 0) := (blk_cell BK447.out 0).trans rfl; have hcz11_1 : w10.cell? ⟨gb447, 1, none⟩ = some (.string (⟨#[]⟩ : ByteArray)) := (blk_cell BK447.out 1).trans rfl; have hcz11_2 : w10.cell? ⟨gb447, 2, none⟩ = some (.string (⟨#[]⟩ : ByteArray)) := (blk_cell BK447.out 2).trans rfl; have hcz11_3 : w10.cell? ⟨gb447, 3, none⟩ = some (.int .i64 0) := (blk_cell BK447.out 3).trans rfl; have hcz11_4 : w10.cell? ⟨gb447, 4, none⟩ = some (.string (⟨#[]⟩ : ByteArray)) := (blk_cell BK447.out 4).trans rfl; have hcz11_5 : w10.cell? ⟨gb447, 5, none⟩ = some (.int .i64 0) := (blk_cell BK447.out 5).trans rfl; have hfz11_0 := blk_frozen BK447.out 0; have hfz11_1 := blk_frozen BK447.out 1; have hfz11_2 := blk_frozen BK447.out 2; have hfz11_3 := blk_frozen BK447.out 3; have hfz11_4 := blk_frozen BK447.out 4; have hfz11_5 := blk_frozen BK447.out 5) | ((with_reducible refine gate_callee (f := 42) rfl ?_); refine goesL_ (some 17) rfl rfl Tryz.func42 (by kernel_rfl) rfl #[.int .i64 ((rd_T48 l0 x7_1).f3), .string ((rd_T48 l0 x7_1).f4), .int .i64 ((rd_T48 l0 x7_1).f5)] rfl (by (try simp only [List.map_toArray, List.map_cons, List.map_nil]); rfl) ?_; (with_reducible refine (spec_Text.calls k1 ((rd_T48 l0 x7_1).f3) ((rd_T48 l0 x7_1).f4) ((rd_T48 l0 x7_1).f5) t448 _ A5.out).mono ?_); rintro e w12 ⟨rfl, hb⟩; refine ⟨_, rfl, ?_⟩; have n0_ := Aside0.mk (blk_below (g := gb447) (o := .cells #[.int .i64 ((rd_T48 l0 x7_1).f0), .string ((rd_T48 l0 x7_1).f1), .string ((rd_T48 l0 x7_1).f2), .int .i64 ((rd_T48 l0 x7_1).f3), .string ((rd_T48 l0 x7_1).f4), .int .i64 ((rd_T48 l0 x7_1).f5)] 48 (0, 0)) (by (with_reducible repeat (fail)); refine blk_put (cs := #[.int .i64 ((rd_T48 l0 x7_1).f0), .string ((rd_T48 l0 x7_1).f1), .string ((rd_T48 l0 x7_1).f2), .int .i64 ((rd_T48 l0 x7_1).f3), .string ((rd_T48 l0 x7_1).f4), .int .i64 0]) ?_ 5 _ rfl; (with_reducible repeat (fail)); refine blk_put (cs := #[.int .i64 ((rd_T48 l0 x7_1).f0), .string ((rd_T48 l0 x7_1).f1), .string ((rd_T48 l0 x7_1).f2), .int .i64 ((rd_T48 l0 x7_1).f3), .string (⟨#[]⟩ : ByteArray), .int .i64 0]) ?_ 4 _ rfl; (with_reducible repeat (fail)); refine blk_put (cs := #[.int .i64 ((rd_T48 l0 x7_1).f0), .string ((rd_T48 l0 x7_1).f1), .string ((rd_T48 l0 x7_1).f2), .int .i64 0, .string (⟨#[]⟩ : ByteArray), .int .i64 0]) ?_ 3 _ rfl; (with_reducible repeat (fail)); refine blk_put (cs := #[.int .i64 ((rd_T48 l0 x7_1).f0), .string ((rd_T48 l0 x7_1).f1), .string (⟨#[]⟩ : ByteArray), .int .i64 0, .string (⟨#[]⟩ : ByteArray), .int .i64 0]) ?_ 2 _ rfl; (with_reducible repeat (fail)); refine blk_put (cs := #[.int .i64 ((rd_T48 l0 x7_1).f0), .string (⟨#[]⟩ : ByteArray), .string (⟨#[]⟩ : ByteArray), .int .i64 0, .string (⟨#[]⟩ : ByteArray), .int .i64 0]) ?_ 1 _ rfl; (with_reducible repeat (fail)); refine blk_put (cs := #[.int .i64 0, .string (⟨#[]⟩ : ByteArray), .string (⟨#[]⟩ : ByteArray), .int .i64 0, .string (⟨#[]⟩ : ByteArray), .int .i64 0]) ?_ 0 _ rfl; (with_reducible repeat (fail)); exact BK447.out) hb); have n1_ := Aside0.mk (below_step (by repeat ((with_reducible first | exact HB.out | refine below_set ?_ GE447.out))) hb); clear BK447; clear HB; have BK447 := n0_; have HB := n1_; clear n0_ n1_; (try clear hb); (try clear hb2); (try clear hk); (try clear hi)))
        go_roundg k1
        case measure => have := HK1.out; omega
        case rel => exact ⟨(wrap64 (x7_1 + 1)), (by first | rfl | (simp; done) | (simp [*]; done)), H', ⟨by have := HK1.out; omega⟩, ⟨by repeat ((with_reducible exact HB.out))⟩⟩
      ·rw [if_neg c4] at H
       exact absurd H (by simp)
     ·rw [if_neg c3] at H
      exact absurd H (by simp)
    ·rw [if_neg c2] at H
     have c2b0 : decide (x7_1 < (l0.length : Int)) = false := decide_eq_false c2
     clear c2
     obtain rfl := Option.some.inj H
     go_wp2
     go_ret
     exact ⟨by rfl, by repeat ((with_reducible exact HB.out))⟩

end Go.Proofs.YtclmjmfcggkpaaaGreatDoor.PX
