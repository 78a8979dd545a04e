import Derived.Test.YtclmjmfcggkpaaaGreatDoorU4
namespace Go.Proofs.YtclmjmfcggkpaaaGreatDoor.PX
open Go.RowKit Go.Proofs.YtclmjmfcggkpaaaGreatDoorW.PrintWords Go.Proofs.YtclmjmfcggkpaaaGreatDoorW.PrintLast Go.Proofs.YtclmjmfcggkpaaaGreatDoorW.PrintMore
attribute [local go_sem] max2_int min2_int max_two min_two max_three min_three max_four min_four   -- for this text's walks alone
set_option linter.unusedVariables false
set_option linter.unusedSimpArgs false

/-! ### laws_zzFits2: function 39 -/
def laws_zzFits2.f (a0_0 : Int) (a0_1 : ByteArray) (a0_2 : ByteArray) (a0_3 : Int) (a0_4 : ByteArray) (a0_5 : Int) : Option (Bool) := if (a0_1.size : Int) > 2147483647 then (some false) else (if (a0_2.size : Int) > 2147483647 then (some false) else (if (a0_4.size : Int) > 2147483647 then (some false) else (some true)))
set_option maxHeartbeats 8000000 in
set_option maxRecDepth 100000 in
theorem laws_zzFits2.calls (a0_0 : Int) (a0_1 : ByteArray) (a0_2 : ByteArray) (a0_3 : Int) (a0_4 : ByteArray) (a0_5 : Int) (r : Bool) (w : World) (h : laws_zzFits2.f a0_0 a0_1 a0_2 a0_3 a0_4 a0_5 = some r) :
 Calls Tryz.prog 39 #[.agg #[.int .i64 a0_0, .string a0_1, .string a0_2, .int .i64 a0_3, .string a0_4, .int .i64 a0_5]] w fun e w' => e = .returned (.bool r) ∧ Below w.heap.size w w' := by
 have hu48 := Tryz.underlying48
 have HB := Aside0.mk (Below.refl w.heap.size w)
 have H : (if (a0_1.size : Int) > 2147483647 then (some false) else (if (a0_2.size : Int) > 2147483647 then (some false) else (if (a0_4.size : Int) > 2147483647 then (some false) else (some true)))) = some r := h
 clear h
 by_cases c2 : (a0_1.size : Int) > 2147483647
 ·rw [if_pos c2] at H
  have c2b0 : decide (2147483647 < (a0_1.size : Int)) = true := decide_eq_true c2
  have c2b1 : decide (2147483647 < a0_1.size) = true := decide_eq_true (by omega)
  clear c2
  obtain rfl := Option.some.inj H
  go_enter Tryz.func39, Tryz.ntmps39
  go_wp2_with (first | ((with_reducible refine gate_dst (N := 1) rfl ?_); refine box_event ?hg (N := 1) ?hd (cs := #[.int .i64 a0_0, .string a0_1, .string a0_2, .int .i64 a0_3, .string a0_4, .int .i64 a0_5]) (t := 48) ?hr ?_; (case hd => rfl); (case hg => rfl); (case hr => first | (go_simp; done) | (go_simp; rfl)); intro gb339 hg w3 hbox hb; have n0_ := Aside0.mk (below_step (by repeat ((with_reducible exact HB.out))) hb); have n1_ := Aside0.mk (hbox); have n2_ := Aside0.mk ((by rw [hg]; exact (below_size (by repeat ((with_reducible exact HB.out)))) : w.heap.size ≤ gb339)); have n3_ := Aside0.mk ((by rw [hg]; exact (below_size (by repeat ((with_reducible exact HB.out)))) : w.heap.size ≤ gb339)); clear HB; have HB := n0_; have BK339 := n1_; have GW339 := n2_; have GE339 := n3_; clear n0_ n1_ n2_ n3_; clear hb hbox hg; have hcz4_0 : w3.cell? ⟨gb339, 0, none⟩ = some (.int .i64 a0_0) := (blk_cell BK339.out 0).trans rfl; have hcz4_1 : w3.cell? ⟨gb339, 1, none⟩ = some (.string a0_1) := (blk_cell BK339.out 1).trans rfl; have hcz4_2 : w3.cell? ⟨gb339, 2, none⟩ = some (.string a0_2) := (blk_cell BK339.out 2).trans rfl; have hcz4_3 : w3.cell? ⟨gb339, 3, none⟩ = some (.int .i64 a0_3) := (blk_cell BK339.out 3).trans rfl; have hcz4_4 : w3.cell? ⟨gb339, 4, none⟩ = some (.string a0_4) := (blk_cell BK339.out 4).trans rfl; have hcz4_5 : w3.cell? ⟨gb339, 5, none⟩ = some (.int .i64 a0_5) := (blk_cell BK339.out 5).trans rfl; have hfz4_0 := blk_frozen BK339.out 0; have hfz4_1 := blk_frozen BK339.out 1; have hfz4_2 := blk_frozen BK339.out 2; have hfz4_3 := blk_frozen BK339.out 3; have hfz4_4 := blk_frozen BK339.out 4; have hfz4_5 := blk_frozen BK339.out 5))
  go_ret
  exact ⟨by rfl, by repeat ((with_reducible exact HB.out))⟩
 ·rw [if_neg c2] at H
  have c2b0 : decide (2147483647 < (a0_1.size : Int)) = false := decide_eq_false c2
  have c2b1 : decide (2147483647 < a0_1.size) = false := decide_eq_false (by omega)
  clear c2
  by_cases c5 : (a0_2.size : Int) > 2147483647
  ·rw [if_pos c5] at H
   have c5b0 : decide (2147483647 < (a0_2.size : Int)) = true := decide_eq_true c5
   have c5b1 : decide (2147483647 < a0_2.size) = true := decide_eq_true (by omega)
   clear c5
   obtain rfl := Option.some.inj H
   go_enter Tryz.func39, Tryz.ntmps39
   go_wp2_with (first | ((with_reducible refine gate_dst (N := 1) rfl ?_); refine box_event ?hg (N := 1) ?hd (cs := #[.int .i64 a0_0, .string a0_1, .string a0_2, .int .i64 a0_3, .string a0_4, .int .i64 a0_5]) (t := 48) ?hr ?_; (case hd => rfl); (case hg => rfl); (case hr => first | (go_simp; done) | (go_simp; rfl)); intro gb339 hg w6 hbox hb; have n0_ := Aside0.mk (below_step (by repeat ((with_reducible exact HB.out))) hb); have n1_ := Aside0.mk (hbox); have n2_ := Aside0.mk ((by rw [hg]; exact (below_size (by repeat ((with_reducible exact HB.out)))) : w.heap.size ≤ gb339)); have n3_ := Aside0.mk ((by rw [hg]; exact (below_size (by repeat ((with_reducible exact HB.out)))) : w.heap.size ≤ gb339)); clear HB; have HB := n0_; have BK339 := n1_; have GW339 := n2_; have GE339 := n3_; clear n0_ n1_ n2_ n3_; clear hb hbox hg; have hcz7_0 : w6.cell? ⟨gb339, 0, none⟩ = some (.int .i64 a0_0) := (blk_cell BK339.out 0).trans rfl; have hcz7_1 : w6.cell? ⟨gb339, 1, none⟩ = some (.string a0_1) := (blk_cell BK339.out 1).trans rfl; have hcz7_2 : w6.cell? ⟨gb339, 2, none⟩ = some (.string a0_2) := (blk_cell BK339.out 2).trans rfl; have hcz7_3 : w6.cell? ⟨gb339, 3, none⟩ = some (.int .i64 a0_3) := (blk_cell BK339.out 3).trans rfl; have hcz7_4 : w6.cell? ⟨gb339, 4, none⟩ = some (.string a0_4) := (blk_cell BK339.out 4).trans rfl; have hcz7_5 : w6.cell? ⟨gb339, 5, none⟩ = some (.int .i64 a0_5) := (blk_cell BK339.out 5).trans rfl; have hfz7_0 := blk_frozen BK339.out 0; have hfz7_1 := blk_frozen BK339.out 1; have hfz7_2 := blk_frozen BK339.out 2; have hfz7_3 := blk_frozen BK339.out 3; have hfz7_4 := blk_frozen BK339.out 4; have hfz7_5 := blk_frozen BK339.out 5))
   go_ret
   exact ⟨by rfl, by repeat ((with_reducible exact HB.out))⟩
  ·rw [if_neg c5] at H
   have c5b0 : decide (2147483647 < (a0_2.size : Int)) = false := decide_eq_false c5
   have c5b1 : decide (2147483647 < a0_2.size) = false := decide_eq_false (by omega)
   clear c5
   by_cases c8 : (a0_4.size : Int) > 2147483647
   ·rw [if_pos c8] at H
    have c8b0 : decide (2147483647 < (a0_4.size : Int)) = true := decide_eq_true c8
    have c8b1 : decide (2147483647 < a0_4.size) = true := decide_eq_true (by omega)
    clear c8
    obtain rfl := Option.some.inj H
    go_enter Tryz.func39, Tryz.ntmps39
    go_wp2_with (first | ((with_reducible refine gate_dst (N := 1) rfl ?_); refine box_event ?hg (N := 1) ?hd (cs := #[.int .i64 a0_0, .string a0_1, .string a0_2, .int .i64 a0_3, .string a0_4, .int .i64 a0_5]) (t := 48) ?hr ?_; (case hd => rfl); (case hg => rfl); (case hr => first | (go_simp; done) | (go_simp; rfl)); intro gb339 hg w9 hbox hb; have n0_ := Aside0.mk (below_step (by repeat ((with_reducible exact HB.out))) hb); have n1_ := Aside0.mk (hbox); have n2_ := Aside0.mk ((by rw [hg]; exact (below_size (by repeat ((with_reducible exact HB.out)))) : w.heap.size ≤ gb339)); have n3_ := Aside0.mk ((by rw [hg]; exact (below_size (by repeat ((with_reducible exact HB.out)))) : w.heap.size ≤ gb339)); clear HB; have HB := n0_; have BK339 := n1_; have GW339 := n2_; have GE339 := n3_; clear n0_ n1_ n2_ n3_; clear hb hbox hg; have hcz10_0 : w9.cell? ⟨gb339, 0, none⟩ = some (.int .i64 a0_0) := (blk_cell BK339.out 0).trans rfl; have hcz10_1 : w9.cell? ⟨gb339, 1, none⟩ = some (.string a0_1) := (blk_cell BK339.out 1).trans rfl; have hcz10_2 : w9.cell? ⟨gb339, 2, none⟩ = some (.string a0_2) := (blk_cell BK339.out 2).trans rfl; have hcz10_3 : w9.cell? ⟨gb339, 3, none⟩ = some (.int .i64 a0_3) := (blk_cell BK339.out 3).trans rfl; have hcz10_4 : w9.cell? ⟨gb339, 4, none⟩ = some (.string a0_4) := (blk_cell BK339.out 4).trans rfl; have hcz10_5 : w9.cell? ⟨gb339, 5, none⟩ = some (.int .i64 a0_5) := (blk_cell BK339.out 5).trans rfl; have hfz10_0 := blk_frozen BK339.out 0; have hfz10_1 := blk_frozen BK339.out 1; have hfz10_2 := blk_frozen BK339.out 2; have hfz10_3 := blk_frozen BK339.out 3; have hfz10_4 := blk_frozen BK339.out 4; have hfz10_5 := blk_frozen BK339.out 5))
    go_ret
    exact ⟨by rfl, by repeat ((with_reducible exact HB.out))⟩
   ·rw [if_neg c8] at H
    have c8b0 : decide (2147483647 < (a0_4.size : Int)) = false := decide_eq_false c8
    have c8b1 : decide (2147483647 < a0_4.size) = false := decide_eq_false (by omega)
    clear c8
    obtain rfl := Option.some.inj H
    go_enter Tryz.func39, Tryz.ntmps39
    go_wp2_with (first | ((with_reducible refine gate_dst (N := 1) rfl ?_); refine box_event ?hg (N := 1) ?hd (cs := #[.int .i64 a0_0, .string a0_1, .string a0_2, .int .i64 a0_3, .string a0_4, .int .i64 a0_5]) (t := 48) ?hr ?_; (case hd => rfl); (case hg => rfl); (case hr => first | (go_simp; done) | (go_simp; rfl)); intro gb339 hg w11 hbox hb; have n0_ := Aside0.mk (below_step (by repeat ((with_reducible exact HB.out))) hb); have n1_ := Aside0.mk (hbox); have n2_ := Aside0.mk ((by rw [hg]; exact (below_size (by repeat ((with_reducible exact HB.out)))) : w.heap.size ≤ gb339)); have n3_ := Aside0.mk ((by rw [hg]; exact (below_size (by repeat ((with_reducible exact HB.out)))) : w.heap.size ≤ gb339)); clear HB; have HB := n0_; have BK339 := n1_; have GW339 := n2_; have GE339 := n3_; clear n0_ n1_ n2_ n3_; clear hb hbox hg; have hcz12_0 : w11.cell? ⟨gb339, 0, none⟩ = some (.int .i64 a0_0) := (blk_cell BK339.out 0).trans rfl; have hcz12_1 : w11.cell? ⟨gb339, 1, none⟩ = some (.string a0_1) := (blk_cell BK339.out 1).trans rfl; have hcz12_2 : w11.cell? ⟨gb339, 2, none⟩ = some (.string a0_2) := (blk_cell BK339.out 2).trans rfl; have hcz12_3 : w11.cell? ⟨gb339, 3, none⟩ = some (.int .i64 a0_3) := (blk_cell BK339.out 3).trans rfl; have hcz12_4 : w11.cell? ⟨gb339, 4, none⟩ = some (.string a0_4) := (blk_cell BK339.out 4).trans rfl; have hcz12_5 : w11.cell? ⟨gb339, 5, none⟩ = some (.int .i64 a0_5) := (blk_cell BK339.out 5).trans rfl; have hfz12_0 := blk_frozen BK339.out 0; have hfz12_1 := blk_frozen BK339.out 1; have hfz12_2 := blk_frozen BK339.out 2; have hfz12_3 := blk_frozen BK339.out 3; have hfz12_4 := blk_frozen BK339.out 4; have hfz12_5 := blk_frozen BK339.out 5))
    go_ret
    exact ⟨by rfl, by repeat ((with_reducible exact HB.out))⟩

end Go.Proofs.YtclmjmfcggkpaaaGreatDoor.PX
namespace Go.Proofs.YtclmjmfcggkpaaaGreatDoor.PX
open Go.RowKit Go.Proofs.YtclmjmfcggkpaaaGreatDoorW.PrintWords Go.Proofs.YtclmjmfcggkpaaaGreatDoorW.PrintLast Go.Proofs.YtclmjmfcggkpaaaGreatDoorW.PrintMore
attribute [local go_sem] max2_int min2_int max_two min_two max_three min_three max_four min_four   -- for this text's walks alone
set_option linter.unusedVariables false
set_option linter.unusedSimpArgs false

/-! ### laws_zzFits1: function 11 -/
def laws_zzFits1.l0 : Nat → List (S48) → Int → Int → Option (Bool)
 | 0, _, _, _ => none
 | k + 1, x8, x9, x10 => if x10 < x9 then (if 0 ≤ x10 then (if x10 < (x8.length : Int) then ((laws_zzFits2.f ((rd_T48 x8 x10).f0) ((rd_T48 x8 x10).f1) ((rd_T48 x8 x10).f2) ((rd_T48 x8 x10).f3) ((rd_T48 x8 x10).f4) ((rd_T48 x8 x10).f5)).bind fun t342 => (if t342 = true then (laws_zzFits1.l0 k x8 x9 (wrap64 (x10 + 1))) else (some false))) else (none)) else (none)) else (some true)
def laws_zzFits1.f (k : Nat) (l0 : List (S48)) : Option (Bool) := if (l0.length : Int) > 2147483647 then (some false) else (laws_zzFits1.l0 k l0 (l0.length : Int) 0)
set_option maxHeartbeats 8000000 in
set_option maxRecDepth 100000 in
theorem laws_zzFits1.calls (k : Nat) (A0 : Option Addr) (c0 : Nat) (l0 : List (S48)) (r : Bool) (w : World) (hr0 : Kd.C k48 w A0 l0.length l0) (hc0 : l0.length ≤ c0) (h : laws_zzFits1.f k l0 = some r) :
 Calls Tryz.prog 11 #[.slice A0 l0.length c0] w fun e w' => e = .returned (.bool r) ∧ Below w.heap.size w w' := by
 have hu48 := Tryz.underlying48
 have HR0 := Aside0.mk hr0
 have HC0 := Aside0.mk hc0
 clear hr0 hc0
 have HB := Aside0.mk (Below.refl w.heap.size w)
 have H : (if (l0.length : Int) > 2147483647 then (some false) else (laws_zzFits1.l0 k l0 (l0.length : Int) 0)) = some r := h
 clear h
 by_cases c2 : (l0.length : Int) > 2147483647
 ·rw [if_pos c2] at H
  have c2b0 : decide (2147483647 < (l0.length : Int)) = true := decide_eq_true c2
  have c2b1 : decide (2147483647 < l0.length) = true := decide_eq_true (by omega)
  clear c2
  obtain rfl := Option.some.inj H
  go_enter Tryz.func11, Tryz.ntmps11
  go_wp2
  go_ret
  exact ⟨by rfl, by repeat ((with_reducible exact HB.out))⟩
 ·rw [if_neg c2] at H
  have c2b0 : decide (2147483647 < (l0.length : Int)) = false := decide_eq_false c2
  have c2b1 : decide (2147483647 < l0.length) = false := decide_eq_false (by omega)
  clear c2
  have H' := Aside0.mk H
  clear H
  go_enter Tryz.func11, Tryz.ntmps11
  go_wp2
  go_loopg [10] k (fun kq v10 w' => ∃ (x10_1 : Int), v10 = .int .i64 x10_1 ∧ Aside0 (laws_zzFits1.l0 kq l0 (l0.length : Int) x10_1 = some r) ∧ Aside0 (kq ≤ k) ∧ Aside0 (Below w.heap.size w w'))
  case atStart => exact ⟨(0), (by first | rfl | (simp; done) | (simp [*]; done)), H', ⟨Nat.le_refl _⟩, ⟨by repeat ((with_reducible exact HB.out))⟩⟩
  case round =>
   clear H'
   try clear c1
   try clear c2
   try clear c2b0
   try clear c2b1
   try clear p2
   obtain ⟨x10_1, rfl, HA, HK1, HB⟩ := hrel
   cases gk with
   | zero => exact absurd HA.out (by simp [laws_zzFits1.l0])
   | succ k1 =>
     have H := HA.out
     clear HA
     simp only [laws_zzFits1.l0] at H
     by_cases c3 : x10_1 < (l0.length : Int)
     ·rw [if_pos c3] at H
      have c3b0 : decide (x10_1 < (l0.length : Int)) = true := decide_eq_true c3
      clear c3
      by_cases c4 : 0 ≤ x10_1
      ·rw [if_pos c4] at H
       have c4b0 : decide (0 ≤ x10_1) = true := decide_eq_true c4
       clear c4
       by_cases c5 : x10_1 < (l0.length : Int)
       ·rw [if_pos c5] at H
        have c5b0 : decide (x10_1 < (l0.length : Int)) = true := decide_eq_true c5
        clear c5
        replace H := Option.bind_eq_some_iff.mp H
        obtain ⟨t342, A60, H⟩ := H
        replace H : (if t342 = true then (laws_zzFits1.l0 k1 l0 (l0.length : Int) (wrap64 (x10_1 + 1))) else (some false)) = some r := H
        have A6 := Aside0.mk A60
        clear A60
        by_cases c7 : t342 = true
        ·subst c7
         have H1 : (laws_zzFits1.l0 k1 l0 (l0.length : Int) (wrap64 (x10_1 + 1))) = some r := by rw [if_pos rfl] at H; exact H
         clear H
         have H := H1
         clear H1
         have H' := Aside0.mk H
         clear H
         have p340 : 0 ≤ (x10_1 : Int) := of_decide_eq_true (by first | (with_reducible assumption) | assumption)
         have q340 : x10_1 < (l0.length : Int) := of_decide_eq_true (by first | (with_reducible assumption) | assumption)
         obtain ⟨ad340, e340, hx340_0, hx340_1, hx340_2, hx340_3, hx340_4, hx340_5⟩ := at_T48 HR0.out x10_1 p340 q340
         cases e340
         replace hx340_0 := (HB.out.cell (World.block_lt_of_cell? w _ hx340_0)).trans hx340_0
         replace hx340_1 := (HB.out.cell (World.block_lt_of_cell? w _ hx340_1)).trans hx340_1
         replace hx340_2 := (HB.out.cell (World.block_lt_of_cell? w _ hx340_2)).trans hx340_2
         replace hx340_3 := (HB.out.cell (World.block_lt_of_cell? w _ hx340_3)).trans hx340_3
         replace hx340_4 := (HB.out.cell (World.block_lt_of_cell? w _ hx340_4)).trans hx340_4
         replace hx340_5 := (HB.out.cell (World.block_lt_of_cell? w _ hx340_5)).trans hx340_5
         replace p340 := eq_true p340
         replace q340 := eq_true q340
         go_wp2_with (first | ((with_reducible refine gate_dst (N := 4) rfl ?_); refine box_event ?hg (N := 4) ?hd (cs := #[.int .i64 0, .string (⟨#[]⟩ : ByteArray), .string (⟨#[]⟩ : ByteArray), .int .i64 0, .string (⟨#[]⟩ : ByteArray), .int .i64 0]) (t := 48) ?hr ?_; (case hd => rfl); (case hg => rfl); (case hr => first | (go_simp; done) | (go_simp; rfl)); intro gb341 hg w8 hbox hb; have n0_ := Aside0.mk (below_step (by repeat ((with_reducible exact HB.out))) hb); have n1_ := Aside0.mk (hbox); have n2_ := Aside0.mk ((by rw [hg]; exact (below_size (by repeat ((with_reducible exact HB.out)))) : w.heap.size ≤ gb341)); have n3_ := Aside0.mk ((by rw [hg]; exact (below_size (by repeat ((with_reducible exact HB.out)))) : w.heap.size ≤ gb341)); clear HB; have HB := n0_; have BK341 := n1_; have GW341 := n2_; have GE341 := n3_; clear n0_ n1_ n2_ n3_; clear hb hbox hg; have hcz9_0 : w8.cell? ⟨gb341, 0, none⟩ = some (.int .i64 0) := (blk_cell BK341.out 0).trans rfl; have hcz9_1 : w8.cell? ⟨gb341, 1, none⟩ = some (.string (⟨#[]⟩ : ByteArray)) := (blk_cell BK341.out 1).trans rfl; have hcz9_2 : w8.cell? ⟨gb341, 2, none⟩ = some (.string (⟨#[]⟩ : ByteArray)) := (blk_cell BK341.out 2).trans rfl; have hcz9_3 : w8.cell? ⟨gb341, 3, none⟩ = some (.int .i64 0) := (blk_cell BK341.out 3).trans rfl; have hcz9_4 : w8.cell? ⟨gb341, 4, none⟩ = some (.string (⟨#[]⟩ : ByteArray)) := (blk_cell BK341.out 4).trans rfl; have hcz9_5 : w8.cell? ⟨gb341, 5, none⟩ = some (.int .i64 0) := (blk_cell BK341.out 5).trans rfl; have hfz9_0 := blk_frozen BK341.out 0; have hfz9_1 := blk_frozen BK341.out 1; have hfz9_2 := blk_frozen BK341.out 2; have hfz9_3 := blk_frozen BK341.out 3; have hfz9_4 := blk_frozen BK341.out 4; have hfz9_5 := blk_frozen BK341.out 5) | ((with_reducible refine gate_callee (f := 39) rfl ?_); refine goesL_ (some 15) rfl rfl Tryz.func39 (by kernel_rfl) rfl #[.agg #[.int .i64 ((rd_T48 l0 x10_1).f0), .string ((rd_T48 l0 x10_1).f1), .string ((rd_T48 l0 x10_1).f2), .int .i64 ((rd_T48 l0 x10_1).f3), .string ((rd_T48 l0 x10_1).f4), .int .i64 ((rd_T48 l0 x10_1).f5)]] rfl (by (try simp only [List.map_toArray, List.map_cons, List.map_nil]); rfl) ?_; (with_reducible refine (laws_zzFits2.calls ((rd_T48 l0 x10_1).f0) ((rd_T48 l0 x10_1).f1) ((rd_T48 l0 x10_1).f2) ((rd_T48 l0 x10_1).f3) ((rd_T48 l0 x10_1).f4) ((rd_T48 l0 x10_1).f5) true _ A6.out).mono ?_); rintro e w10 ⟨rfl, hb⟩; refine ⟨_, rfl, ?_⟩; have n0_ := Aside0.mk (blk_below (g := gb341) (o := .cells #[.int .i64 ((rd_T48 l0 x10_1).f0), .string ((rd_T48 l0 x10_1).f1), .string ((rd_T48 l0 x10_1).f2), .int .i64 ((rd_T48 l0 x10_1).f3), .string ((rd_T48 l0 x10_1).f4), .int .i64 ((rd_T48 l0 x10_1).f5)] 48 (0, 0)) (by (with_reducible repeat (fail)); refine blk_put (cs := #[.int .i64 ((rd_T48 l0 x10_1).f0), .string ((rd_T48 l0 x10_1).f1), .string ((rd_T48 l0 x10_1).f2), .int .i64 ((rd_T48 l0 x10_1).f3), .string ((rd_T48 l0 x10_1).f4), .int .i64 0]) ?_ 5 _ rfl; (with_reducible repeat (fail)); refine blk_put (cs := #[.int .i64 ((rd_T48 l0 x10_1).f0), .string ((rd_T48 l0 x10_1).f1), .string ((rd_T48 l0 x10_1).f2), .int .i64 ((rd_T48 l0 x10_1).f3), .string (⟨#[]⟩ : ByteArray), .int .i64 0]) ?_ 4 _ rfl; (with_reducible repeat (fail)); refine blk_put (cs := #[.int .i64 ((rd_T48 l0 x10_1).f0), .string ((rd_T48 l0 x10_1).f1), .string ((rd_T48 l0 x10_1).f2), .int .i64 0, .string (⟨#[]⟩ : ByteArray), .int .i64 0]) ?_ 3 _ rfl; (with_reducible repeat (fail)); refine blk_put (cs := #[.int .i64 ((rd_T48 l0 x10_1).f0), .string ((rd_T48 l0 x10_1).f1), .string (⟨#[]⟩ : ByteArray), .int .i64 0, .string (⟨#[]⟩ : ByteArray), .int .i64 0]) ?_ 2 _ rfl; (with_reducible repeat (fail)); refine blk_put (cs := #[.int .i64 ((rd_T48 l0 x10_1).f0), .string (⟨#[]⟩ : ByteArray), .string (⟨#[]⟩ : ByteArray), .int .i64 0, .string (⟨#[]⟩ : ByteArray), .int .i64 0]) ?_ 1 _ rfl; (with_reducible repeat (fail)); refine blk_put (cs := #[.int .i64 0, .string (⟨#[]⟩ : ByteArray), .string (⟨#[]⟩ : ByteArray), .int .i64 0, .string (⟨#[]⟩ : ByteArray), .int .i64 0]) ?_ 0 _ rfl; (with_reducible repeat (fail)); exact BK341.out) hb); have n1_ := Aside0.mk (below_step (by repeat ((with_reducible first | exact HB.out | refine below_set ?_ GE341.out))) hb); clear BK341; clear HB; have BK341 := n0_; have HB := n1_; clear n0_ n1_; (try clear hb); (try clear hb2); (try clear hk); (try clear hi)))
         go_roundg k1
         case measure => have := HK1.out; omega
         case rel => exact ⟨(wrap64 (x10_1 + 1)), (by first | rfl | (simp; done) | (simp [*]; done)), H', ⟨by have := HK1.out; omega⟩, ⟨by repeat ((with_reducible exact HB.out))⟩⟩
        ·replace c7 := Bool.eq_false_iff.mpr c7
         subst c7
         have H1 : (some false) = some r := by rw [if_neg (show ¬ (false = true) by decide)] at H; exact H
         clear H
         have H := H1
         clear H1
         obtain rfl := Option.some.inj H
         have p340 : 0 ≤ (x10_1 : Int) := of_decide_eq_true (by first | (with_reducible assumption) | assumption)
         have q340 : x10_1 < (l0.length : Int) := of_decide_eq_true (by first | (with_reducible assumption) | assumption)
         obtain ⟨ad340, e340, hx340_0, hx340_1, hx340_2, hx340_3, hx340_4, hx340_5⟩ := at_T48 HR0.out x10_1 p340 q340
         cases e340
         replace hx340_0 := (HB.out.cell (World.block_lt_of_cell? w _ hx340_0)).trans hx340_0
         replace hx340_1 := (HB.out.cell (World.block_lt_of_cell? w _ hx340_1)).trans hx340_1
         replace hx340_2 := (HB.out.cell (World.block_lt_of_cell? w _ hx340_2)).trans hx340_2
         replace hx340_3 := (HB.out.cell (World.block_lt_of_cell? w _ hx340_3)).trans hx340_3
         replace hx340_4 := (HB.out.cell (World.block_lt_of_cell? w _ hx340_4)).trans hx340_4
         replace hx340_5 := (HB.out.cell (World.block_lt_of_cell? w _ hx340_5)).trans hx340_5
         replace p340 := eq_true p340
         replace q340 := eq_true q340
         go_wp2_with (first | ((with_reducible refine gate_dst (N := 4) rfl ?_); refine box_event ?hg (N := 4) ?hd (cs := #[.int .i64 0, .string (⟨#[]⟩ : ByteArray), .string (⟨#[]⟩ : ByteArray), .int .i64 0, .string (⟨#[]⟩ : ByteArray), .int .i64 0]) (t := 48) ?hr ?_; (case hd => rfl); (case hg => rfl); (case hr => first | (go_simp; done) | (go_simp; rfl)); intro gb341 hg w11 hbox hb; have n0_ := Aside0.mk (below_step (by repeat ((with_reducible exact HB.out))) hb); have n1_ := Aside0.mk (hbox); have n2_ := Aside0.mk ((by rw [hg]; exact (below_size (by repeat ((with_reducible exact HB.out)))) : w.heap.size ≤ gb341)); have n3_ := Aside0.mk ((by rw [hg]; exact (below_size (by repeat ((with_reducible exact HB.out)))) : w.heap.size ≤ gb341)); clear HB; have HB := n0_; have BK341 := n1_; have GW341 := n2_; have GE341 := n3_; clear n0_ n1_ n2_ n3_; clear hb hbox hg; have hcz12_0 : w11.cell? ⟨gb341, 0, none⟩ = some (.int .i64 0) := (blk_cell BK341.out 0).trans rfl; have hcz12_1 : w11.cell? ⟨gb341, 1, none⟩ = some (.string (⟨#[]⟩ : ByteArray)) := (blk_cell BK341.out 1).trans rfl; have hcz12_2 : w11.cell? ⟨gb341, 2, none⟩ = some (.string (⟨#[]⟩ : ByteArray)) := (blk_cell BK341.out 2).trans rfl; have hcz12_3 : w11.cell? ⟨gb341, 3, none⟩ = some (.int .i64 0) := (blk_cell BK341.out 3).trans rfl; have hcz12_4 : w11.cell? ⟨gb341, 4, none⟩ = some (.string (⟨#[]⟩ : ByteArray)) := (blk_cell BK341.out 4).trans rfl; have hcz12_5 : w11.cell? ⟨gb341, 5, none⟩ = some (.int .i64 0) := (blk_cell BK341.out 5).trans rfl; have hfz12_0 := blk_frozen BK341.out 0; have hfz12_1 := blk_frozen BK341.out 1; have hfz12_2 := blk_frozen BK341.out 2; have hfz12_3 := blk_frozen BK341.out 3; have hfz12_4 := blk_frozen BK341.out 4; have hfz12_5 := blk_frozen BK341.out 5) | ((with_reducible refine gate_callee (f := 39) rfl ?_); refine goesL_ (some 15) rfl rfl Tryz.func39 (by kernel_rfl) rfl #[.agg #[.int .i64 ((rd_T48 l0 x10_1).f0), .string ((rd_T48 l0 x10_1).f1), .string ((rd_T48 l0 x10_1).f2), .int .i64 ((rd_T48 l0 x10_1).f3), .string ((rd_T48 l0 x10_1).f4), .int .i64 ((rd_T48 l0 x10_1).f5)]] rfl (by (try simp only [List.map_toArray, List.map_cons, List.map_nil]); rfl) ?_; (with_reducible refine (laws_zzFits2.calls ((rd_T48 l0 x10_1).f0) ((rd_T48 l0 x10_1).f1) ((rd_T48 l0 x10_1).f2) ((rd_T48 l0 x10_1).f3) ((rd_T48 l0 x10_1).f4) ((rd_T48 l0 x10_1).f5) false _ A6.out).mono ?_); rintro e w13 ⟨rfl, hb⟩; refine ⟨_, rfl, ?_⟩; have n0_ := Aside0.mk (blk_below (g := gb341) (o := .cells #[.int .i64 ((rd_T48 l0 x10_1).f0), .string ((rd_T48 l0 x10_1).f1), .string ((rd_T48 l0 x10_1).f2), .int .i64 ((rd_T48 l0 x10_1).f3), .string ((rd_T48 l0 x10_1).f4), .int .i64 ((rd_T48 l0 x10_1).f5)] 48 (0, 0)) (by (with_reducible repeat (fail)); refine blk_put (cs := #[.int .i64 ((rd_T48 l0 x10_1).f0), .string ((rd_T48 l0 x10_1).f1), .string ((rd_T48 l0 x10_1).f2), .int .i64 ((rd_T48 l0 x10_1).f3), .string ((rd_T48 l0 x10_1).f4), .int .i64 0]) ?_ 5 _ rfl; (with_reducible repeat (fail)); refine blk_put (cs := #[.int .i64 ((rd_T48 l0 x10_1).f0), .string ((rd_T48 l0 x10_1).f1), .string ((rd_T48 l0 x10_1).f2), .int .i64 ((rd_T48 l0 x10_1).f3), .string (⟨#[]⟩ : ByteArray), .int .i64 0]) ?_ 4 _ rfl; (with_reducible repeat (fail)); refine blk_put (cs := #[.int .i64 ((rd_T48 l0 x10_1).f0), .string ((rd_T48 l0 x10_1).f1), .string ((rd_T48 l0 x10_1).f2), .int .i64 0, .string (⟨#[]⟩ : ByteArray), .int .i64 0]) ?_ 3 _ rfl; (with_reducible repeat (fail)); refine blk_put (cs := #[.int .i64 ((rd_T48 l0 x10_1).f0), .string ((rd_T48 l0 x10_1).f1), .string (⟨#[]⟩ : ByteArray), .int .i64 0, .string (⟨#[]⟩ : ByteArray), .int .i64 0]) ?_ 2 _ rfl; (with_reducible repeat (fail)); refine blk_put (cs := #[.int .i64 ((rd_T48 l0 x10_1).f0), .string (⟨#[]⟩ : ByteArray), .string (⟨#[]⟩ : ByteArray), .int .i64 0, .string (⟨#[]⟩ : ByteArray), .int .i64 0]) ?_ 1 _ rfl; (with_reducible repeat (fail)); refine blk_put (cs := #[.int .i64 0, .string (⟨#[]⟩ : ByteArray), .string (⟨#[]⟩ : ByteArray), .int .i64 0, .string (⟨#[]⟩ : ByteArray), .int .i64 0]) ?_ 0 _ rfl; (with_reducible repeat (fail)); exact BK341.out) hb); have n1_ := Aside0.mk (below_step (by repeat ((with_reducible first | exact HB.out | refine below_set ?_ GE341.out))) hb); clear BK341; clear HB; have BK341 := n0_; have HB := n1_; clear n0_ n1_; (try clear hb); (try clear hb2); (try clear hk); (try clear hi)))
         go_ret
         exact ⟨by rfl, by repeat ((with_reducible exact HB.out))⟩
       ·rw [if_neg c5] at H
        exact absurd H (by simp)
      ·rw [if_neg c4] at H
       exact absurd H (by simp)
     ·rw [if_neg c3] at H
      have c3b0 : decide (x10_1 < (l0.length : Int)) = false := decide_eq_false c3
      clear c3
      obtain rfl := Option.some.inj H
      go_wp2
      go_ret
      exact ⟨by rfl, by repeat ((with_reducible exact HB.out))⟩

end Go.Proofs.YtclmjmfcggkpaaaGreatDoor.PX
