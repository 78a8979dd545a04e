import Derived.Test.YtkihaebaccdjdaaGreatDoorJ4
import Derived.Test.YtkihaebaccdjdaaGreatDoorJ45
namespace Go.Proofs.YtkihaebaccdjdaaGreatDoor.PX
open Go.RowKit Go.Proofs.YtkihaebaccdjdaaGreatDoorW.PrintWords Go.Proofs.YtkihaebaccdjdaaGreatDoorW.PrintLast Go.Proofs.YtkihaebaccdjdaaGreatDoorW.PrintMore
attribute [local go_sem] max2_int min2_int max_two min_two max_three min_three max_four min_four   -- for this text's walks alone
set_option linter.unusedVariables false
set_option linter.unusedSimpArgs false

/-! ### spec_isPart: function 55 -/
def spec_isPart.j0 : Nat → Bool → Bool → Int → ByteArray → Int → List ByteArray → List (S28) → List Bool → ByteArray → ByteArray → ByteArray → List (S45) → Option (Bool)
 | 0, _, _, _, _, _, _, _, _, _, _, _, _ => none
 | k + 1, x1, x5, x466000, x466001, x466002, x466003, x466004, x466005, x466006, x466007, x466008, x466009 => (spec_isScalar.f x466000).bind fun t466 => (if t466 = true then (if x5 = true then (some (!x1)) else (some false)) else (if x466000 = 8 then (if (x466003.length : Int) = 0 then (some ((x466005.length : Int) == 0)) else (some false)) else (if x466000 = 9 then (if (x466003.length : Int) = (x466004.length : Int) then (some ((x466005.length : Int) == 0)) else (some false)) else (if x466000 = 7 then (if (x466003.length : Int) = (x466004.length : Int) then (if (x466005.length : Int) = (x466004.length : Int) then (some (!x1)) else (some false)) else (some false)) else (some false)))))
def spec_isPart.f (k : Nat) (a0_0 : Int) (a0_1 : ByteArray) (a0_2 : Int) (l0_3 : List ByteArray) (l0_4 : List (S28)) (l0_5 : List Bool) (a0_6 : ByteArray) (a0_7 : ByteArray) (a0_8 : ByteArray) (l0_9 : List (S45)) (a1 : Bool) : Option (Bool) := if (l0_3.length : Int) = 0 then (if (l0_4.length : Int) = 0 then (spec_isPart.j0 k a1 ((l0_5.length : Int) == 0) a0_0 a0_1 a0_2 l0_3 l0_4 l0_5 a0_6 a0_7 a0_8 l0_9) else (spec_isPart.j0 k a1 false a0_0 a0_1 a0_2 l0_3 l0_4 l0_5 a0_6 a0_7 a0_8 l0_9)) else (spec_isPart.j0 k a1 false a0_0 a0_1 a0_2 l0_3 l0_4 l0_5 a0_6 a0_7 a0_8 l0_9)
set_option maxHeartbeats 8000000 in
set_option maxRecDepth 100000 in
theorem spec_isPart.calls (k : Nat) (a0_0 : Int) (a0_1 : ByteArray) (a0_2 : Int) (A0_3 : Option Addr) (c0_3 : Nat) (l0_3 : List ByteArray) (A0_4 : Option Addr) (c0_4 : Nat) (l0_4 : List (S28)) (A0_5 : Option Addr) (c0_5 : Nat) (l0_5 : List Bool) (a0_6 : ByteArray) (a0_7 : ByteArray) (a0_8 : ByteArray) (A0_9 : Option Addr) (c0_9 : Nat) (l0_9 : List (S45)) (a1 : Bool) (r : Bool) (w : World) (hr0_3 : Kd.C Kd.string w A0_3 l0_3.length l0_3) (hc0_3 : l0_3.length ≤ c0_3) (hr0_4 : Kd.C k28 w A0_4 l0_4.length l0_4) (hc0_4 : l0_4.length ≤ c0_4) (hr0_5 : Kd.C Kd.bool w A0_5 l0_5.length l0_5) (hc0_5 : l0_5.length ≤ c0_5) (hr0_9 : Kd.C k45 w A0_9 l0_9.length l0_9) (hc0_9 : l0_9.length ≤ c0_9) (h : spec_isPart.f k a0_0 a0_1 a0_2 l0_3 l0_4 l0_5 a0_6 a0_7 a0_8 l0_9 a1 = some r) :
 Calls Tryz.prog 55 #[.agg #[.int .i64 a0_0, .string a0_1, .int .i64 a0_2, .slice A0_3 l0_3.length c0_3, .slice A0_4 l0_4.length c0_4, .slice A0_5 l0_5.length c0_5, .string a0_6, .string a0_7, .string a0_8, .slice A0_9 l0_9.length c0_9], .bool a1] w fun e w' => e = .returned (.bool r) ∧ Below w.heap.size w w' := by
 have hu28 := Tryz.underlying28
 have HR0_3 := Aside0.mk hr0_3
 have HC0_3 := Aside0.mk hc0_3
 clear hr0_3 hc0_3
 have HR0_4 := Aside0.mk hr0_4
 have HC0_4 := Aside0.mk hc0_4
 clear hr0_4 hc0_4
 have HR0_5 := Aside0.mk hr0_5
 have HC0_5 := Aside0.mk hc0_5
 clear hr0_5 hc0_5
 have HR0_9 := Aside0.mk hr0_9
 have HC0_9 := Aside0.mk hc0_9
 clear hr0_9 hc0_9
 have HB := Aside0.mk (Below.refl w.heap.size w)
 have H : (if (l0_3.length : Int) = 0 then (if (l0_4.length : Int) = 0 then (spec_isPart.j0 k a1 ((l0_5.length : Int) == 0) a0_0 a0_1 a0_2 l0_3 l0_4 l0_5 a0_6 a0_7 a0_8 l0_9) else (spec_isPart.j0 k a1 false a0_0 a0_1 a0_2 l0_3 l0_4 l0_5 a0_6 a0_7 a0_8 l0_9)) else (spec_isPart.j0 k a1 false a0_0 a0_1 a0_2 l0_3 l0_4 l0_5 a0_6 a0_7 a0_8 l0_9)) = some r := h
 clear h
 have HC3 := Aside0.mk H
 clear H
 go_enter Tryz.func55, Tryz.ntmps55
 go_upto_region 1 with (first | ((with_reducible refine gate_dst (N := 2) rfl ?_); (try (refine gate_guard (by rfl) ?_; dsimp only)); refine box_event ?hg (N := 2) ?hd (cs := #[.int .i64 a0_0, .string a0_1, .int .i64 a0_2, .slice A0_3 l0_3.length c0_3, .slice A0_4 l0_4.length c0_4, .slice A0_5 l0_5.length c0_5, .string a0_6, .string a0_7, .string a0_8, .slice A0_9 l0_9.length c0_9]) (t := 28) ?hr ?_; (case hd => rfl); (case hg => rfl); (case hr => first | (go_simp; done) | (go_simp; rfl)); intro gb465 hg w4 hbox hb; have n0_ := Aside0.mk (below_step (by repeat ((with_reducible exact HB.out))) hb); have n1_ := Aside0.mk (hbox); have n2_ := Aside0.mk ((by rw [hg]; exact (below_size (by repeat ((with_reducible exact HB.out)))) : w.heap.size ≤ gb465)); have n3_ := Aside0.mk ((by rw [hg]; exact (below_size (by repeat ((with_reducible exact HB.out)))) : w.heap.size ≤ gb465)); clear HB; have HB := n0_; have BK465 := n1_; have GW465 := n2_; have GE465 := n3_; clear n0_ n1_ n2_ n3_; clear hb hbox hg))
 (skip)
 go_cut [5] (fun v5 wc => ∃ (kq : Nat) (x5_2 : Bool), v5 = .bool x5_2 ∧ Aside0 (spec_isPart.j0 kq a1 x5_2 a0_0 a0_1 a0_2 l0_3 l0_4 l0_5 a0_6 a0_7 a0_8 l0_9 = some r) ∧ Aside0 (kq ≤ k) ∧ Aside0 (wc.heap[gb465]? = some (.cells #[.int .i64 a0_0, .string a0_1, .int .i64 a0_2, (.slice A0_3 l0_3.length c0_3), (.slice A0_4 l0_4.length c0_4), (.slice A0_5 l0_5.length c0_5), .string a0_6, .string a0_7, .string a0_8, (.slice A0_9 l0_9.length c0_9)] 28 (0, 0))) ∧ Aside0 (Below w.heap.size w wc))
 case first =>
  have H := HC3.out
  clear HC3
  by_cases c5 : (l0_3.length : Int) = 0
  ·rw [if_pos c5] at H
   have c5b0 : ((l0_3.length : Int) == 0) = true := beq_iff_eq.mpr c5
   have c5b1 : ((l0_3.length : Int) != 0) = false := bne_eq_false_iff_eq.mpr c5
   clear c5
   (first | rw [c5b0] | (simp only [i64_w, i32_w]; rw [c5b0]) | skip)
   by_cases c6 : (l0_4.length : Int) = 0
   ·rw [if_pos c6] at H
    have c6b0 : ((l0_4.length : Int) == 0) = true := beq_iff_eq.mpr c6
    have c6b1 : ((l0_4.length : Int) != 0) = false := bne_eq_false_iff_eq.mpr c6
    clear c6
    have H' := Aside0.mk H
    clear H
    have hcz7_0 : w4.cell? ⟨gb465, 0, none⟩ = some (.int .i64 a0_0) := (blk_cell BK465.out 0).trans rfl
    have hcz7_1 : w4.cell? ⟨gb465, 1, none⟩ = some (.string a0_1) := (blk_cell BK465.out 1).trans rfl
    have hcz7_2 : w4.cell? ⟨gb465, 2, none⟩ = some (.int .i64 a0_2) := (blk_cell BK465.out 2).trans rfl
    have hcz7_3 : w4.cell? ⟨gb465, 3, none⟩ = some (.slice A0_3 l0_3.length c0_3) := (blk_cell BK465.out 3).trans rfl
    have hcz7_4 : w4.cell? ⟨gb465, 4, none⟩ = some (.slice A0_4 l0_4.length c0_4) := (blk_cell BK465.out 4).trans rfl
    have hcz7_5 : w4.cell? ⟨gb465, 5, none⟩ = some (.slice A0_5 l0_5.length c0_5) := (blk_cell BK465.out 5).trans rfl
    have hcz7_6 : w4.cell? ⟨gb465, 6, none⟩ = some (.string a0_6) := (blk_cell BK465.out 6).trans rfl
    have hcz7_7 : w4.cell? ⟨gb465, 7, none⟩ = some (.string a0_7) := (blk_cell BK465.out 7).trans rfl
    have hcz7_8 : w4.cell? ⟨gb465, 8, none⟩ = some (.string a0_8) := (blk_cell BK465.out 8).trans rfl
    have hcz7_9 : w4.cell? ⟨gb465, 9, none⟩ = some (.slice A0_9 l0_9.length c0_9) := (blk_cell BK465.out 9).trans rfl
    have hfz7_0 := blk_frozen BK465.out 0
    have hfz7_1 := blk_frozen BK465.out 1
    have hfz7_2 := blk_frozen BK465.out 2
    have hfz7_3 := blk_frozen BK465.out 3
    have hfz7_4 := blk_frozen BK465.out 4
    have hfz7_5 := blk_frozen BK465.out 5
    have hfz7_6 := blk_frozen BK465.out 6
    have hfz7_7 := blk_frozen BK465.out 7
    have hfz7_8 := blk_frozen BK465.out 8
    have hfz7_9 := blk_frozen BK465.out 9
    go_wp2
    go_meet
    case rel => exact ⟨_, (((l0_5.length : Int) == 0)), (by first | rfl | (simp; done) | (simp [*]; done)), H', ⟨by first | omega | exact Nat.le_refl _⟩, ⟨by (with_reducible repeat (fail)); exact BK465.out⟩, ⟨by repeat ((with_reducible exact HB.out))⟩⟩
   ·rw [if_neg c6] at H
    have c6b0 : ((l0_4.length : Int) == 0) = false := beq_eq_false_iff_ne.mpr c6
    have c6b1 : ((l0_4.length : Int) != 0) = true := bne_iff_ne.mpr c6
    have c6b2 : ¬ (l0_4 = []) := fun h_ => c6 (by rw [h_]; rfl)
    have H' := Aside0.mk H
    clear H
    have hcz8_0 : w4.cell? ⟨gb465, 0, none⟩ = some (.int .i64 a0_0) := (blk_cell BK465.out 0).trans rfl
    have hcz8_1 : w4.cell? ⟨gb465, 1, none⟩ = some (.string a0_1) := (blk_cell BK465.out 1).trans rfl
    have hcz8_2 : w4.cell? ⟨gb465, 2, none⟩ = some (.int .i64 a0_2) := (blk_cell BK465.out 2).trans rfl
    have hcz8_3 : w4.cell? ⟨gb465, 3, none⟩ = some (.slice A0_3 l0_3.length c0_3) := (blk_cell BK465.out 3).trans rfl
    have hcz8_4 : w4.cell? ⟨gb465, 4, none⟩ = some (.slice A0_4 l0_4.length c0_4) := (blk_cell BK465.out 4).trans rfl
    have hcz8_5 : w4.cell? ⟨gb465, 5, none⟩ = some (.slice A0_5 l0_5.length c0_5) := (blk_cell BK465.out 5).trans rfl
    have hcz8_6 : w4.cell? ⟨gb465, 6, none⟩ = some (.string a0_6) := (blk_cell BK465.out 6).trans rfl
    have hcz8_7 : w4.cell? ⟨gb465, 7, none⟩ = some (.string a0_7) := (blk_cell BK465.out 7).trans rfl
    have hcz8_8 : w4.cell? ⟨gb465, 8, none⟩ = some (.string a0_8) := (blk_cell BK465.out 8).trans rfl
    have hcz8_9 : w4.cell? ⟨gb465, 9, none⟩ = some (.slice A0_9 l0_9.length c0_9) := (blk_cell BK465.out 9).trans rfl
    have hfz8_0 := blk_frozen BK465.out 0
    have hfz8_1 := blk_frozen BK465.out 1
    have hfz8_2 := blk_frozen BK465.out 2
    have hfz8_3 := blk_frozen BK465.out 3
    have hfz8_4 := blk_frozen BK465.out 4
    have hfz8_5 := blk_frozen BK465.out 5
    have hfz8_6 := blk_frozen BK465.out 6
    have hfz8_7 := blk_frozen BK465.out 7
    have hfz8_8 := blk_frozen BK465.out 8
    have hfz8_9 := blk_frozen BK465.out 9
    go_wp2
    go_meet
    case rel => exact ⟨_, (false), (by first | rfl | (simp; done) | (simp [*]; done)), H', ⟨by first | omega | exact Nat.le_refl _⟩, ⟨by (with_reducible repeat (fail)); exact BK465.out⟩, ⟨by repeat ((with_reducible exact HB.out))⟩⟩
  ·rw [if_neg c5] at H
   have c5b0 : ((l0_3.length : Int) == 0) = false := beq_eq_false_iff_ne.mpr c5
   have c5b1 : ((l0_3.length : Int) != 0) = true := bne_iff_ne.mpr c5
   have c5b2 : ¬ (l0_3 = []) := fun h_ => c5 (by rw [h_]; rfl)
   (first | rw [c5b0] | (simp only [i64_w, i32_w]; rw [c5b0]) | skip)
   have H' := Aside0.mk H
   clear H
   have hcz9_0 : w4.cell? ⟨gb465, 0, none⟩ = some (.int .i64 a0_0) := (blk_cell BK465.out 0).trans rfl
   have hcz9_1 : w4.cell? ⟨gb465, 1, none⟩ = some (.string a0_1) := (blk_cell BK465.out 1).trans rfl
   have hcz9_2 : w4.cell? ⟨gb465, 2, none⟩ = some (.int .i64 a0_2) := (blk_cell BK465.out 2).trans rfl
   have hcz9_3 : w4.cell? ⟨gb465, 3, none⟩ = some (.slice A0_3 l0_3.length c0_3) := (blk_cell BK465.out 3).trans rfl
   have hcz9_4 : w4.cell? ⟨gb465, 4, none⟩ = some (.slice A0_4 l0_4.length c0_4) := (blk_cell BK465.out 4).trans rfl
   have hcz9_5 : w4.cell? ⟨gb465, 5, none⟩ = some (.slice A0_5 l0_5.length c0_5) := (blk_cell BK465.out 5).trans rfl
   have hcz9_6 : w4.cell? ⟨gb465, 6, none⟩ = some (.string a0_6) := (blk_cell BK465.out 6).trans rfl
   have hcz9_7 : w4.cell? ⟨gb465, 7, none⟩ = some (.string a0_7) := (blk_cell BK465.out 7).trans rfl
   have hcz9_8 : w4.cell? ⟨gb465, 8, none⟩ = some (.string a0_8) := (blk_cell BK465.out 8).trans rfl
   have hcz9_9 : w4.cell? ⟨gb465, 9, none⟩ = some (.slice A0_9 l0_9.length c0_9) := (blk_cell BK465.out 9).trans rfl
   have hfz9_0 := blk_frozen BK465.out 0
   have hfz9_1 := blk_frozen BK465.out 1
   have hfz9_2 := blk_frozen BK465.out 2
   have hfz9_3 := blk_frozen BK465.out 3
   have hfz9_4 := blk_frozen BK465.out 4
   have hfz9_5 := blk_frozen BK465.out 5
   have hfz9_6 := blk_frozen BK465.out 6
   have hfz9_7 := blk_frozen BK465.out 7
   have hfz9_8 := blk_frozen BK465.out 8
   have hfz9_9 := blk_frozen BK465.out 9
   go_wp2
   go_meet
   case rel => exact ⟨_, (false), (by first | rfl | (simp; done) | (simp [*]; done)), H', ⟨by first | omega | exact Nat.le_refl _⟩, ⟨by (with_reducible repeat (fail)); exact BK465.out⟩, ⟨by repeat ((with_reducible exact HB.out))⟩⟩
 case rest =>
  clear HC3
  try clear p2
  try clear c5
  try clear c5b0
  try clear c5b1
  try clear c5b2
  try clear c6
  try clear c6b0
  try clear c6b1
  try clear c6b2
  try clear hcz7_0
  try clear hcz7_1
  try clear hcz7_2
  try clear hcz7_3
  try clear hcz7_4
  try clear hcz7_5
  try clear hcz7_6
  try clear hcz7_7
  try clear hcz7_8
  try clear hcz7_9
  try clear hcz8_0
  try clear hcz8_1
  try clear hcz8_2
  try clear hcz8_3
  try clear hcz8_4
  try clear hcz8_5
  try clear hcz8_6
  try clear hcz8_7
  try clear hcz8_8
  try clear hcz8_9
  try clear hcz9_0
  try clear hcz9_1
  try clear hcz9_2
  try clear hcz9_3
  try clear hcz9_4
  try clear hcz9_5
  try clear hcz9_6
  try clear hcz9_7
  try clear hcz9_8
  try clear hcz9_9
  try clear hfz7_0
  try clear hfz7_1
  try clear hfz7_2
  try clear hfz7_3
  try clear hfz7_4
  try clear hfz7_5
  try clear hfz7_6
  try clear hfz7_7
  try clear hfz7_8
  try clear hfz7_9
  try clear hfz8_0
  try clear hfz8_1
  try clear hfz8_2
  try clear hfz8_3
  try clear hfz8_4
  try clear hfz8_5
  try clear hfz8_6
  try clear hfz8_7
  try clear hfz8_8
  try clear hfz8_9
  try clear hfz9_0
  try clear hfz9_1
  try clear hfz9_2
  try clear hfz9_3
  try clear hfz9_4
  try clear hfz9_5
  try clear hfz9_6
  try clear hfz9_7
  try clear hfz9_8
  try clear hfz9_9
  obtain ⟨kq, x5_2, rfl, HA, HJ2, BK465, HB⟩ := hcut
  cases kq with
  | zero => exact absurd HA.out (by simp [spec_isPart.j0])
  | succ kj2 =>
    have H := HA.out
    clear HA
    simp only [spec_isPart.j0] at H
    replace H := Option.bind_eq_some_iff.mp H
    obtain ⟨t466, A100, H⟩ := H
    replace H : (if t466 = true then (if x5_2 = true then (some (!a1)) else (some false)) else (if a0_0 = 8 then (if (l0_3.length : Int) = 0 then (some ((l0_5.length : Int) == 0)) else (some false)) else (if a0_0 = 9 then (if (l0_3.length : Int) = (l0_4.length : Int) then (some ((l0_5.length : Int) == 0)) else (some false)) else (if a0_0 = 7 then (if (l0_3.length : Int) = (l0_4.length : Int) then (if (l0_5.length : Int) = (l0_4.length : Int) then (some (!a1)) else (some false)) else (some false)) else (some false))))) = some r := H
    have A10 := Aside0.mk A100
    clear A100
    by_cases c11 : t466 = true
    ·subst c11
     have H1 : (if x5_2 = true then (some (!a1)) else (some false)) = some r := by rw [if_pos rfl] at H; exact H
     clear H
     have H := H1
     clear H1
     by_cases c12 : x5_2 = true
     ·subst c12
      have H1 : (some (!a1)) = some r := by rw [if_pos rfl] at H; exact H
      clear H
      have H := H1
      clear H1
      obtain rfl := Option.some.inj H
      have hcz13_0 : wc.cell? ⟨gb465, 0, none⟩ = some (.int .i64 a0_0) := (blk_cell BK465.out 0).trans rfl
      have hcz13_1 : wc.cell? ⟨gb465, 1, none⟩ = some (.string a0_1) := (blk_cell BK465.out 1).trans rfl
      have hcz13_2 : wc.cell? ⟨gb465, 2, none⟩ = some (.int .i64 a0_2) := (blk_cell BK465.out 2).trans rfl
      have hcz13_3 : wc.cell? ⟨gb465, 3, none⟩ = some (.slice A0_3 l0_3.length c0_3) := (blk_cell BK465.out 3).trans rfl
      have hcz13_4 : wc.cell? ⟨gb465, 4, none⟩ = some (.slice A0_4 l0_4.length c0_4) := (blk_cell BK465.out 4).trans rfl
      have hcz13_5 : wc.cell? ⟨gb465, 5, none⟩ = some (.slice A0_5 l0_5.length c0_5) := (blk_cell BK465.out 5).trans rfl
      have hcz13_6 : wc.cell? ⟨gb465, 6, none⟩ = some (.string a0_6) := (blk_cell BK465.out 6).trans rfl
      have hcz13_7 : wc.cell? ⟨gb465, 7, none⟩ = some (.string a0_7) := (blk_cell BK465.out 7).trans rfl
      have hcz13_8 : wc.cell? ⟨gb465, 8, none⟩ = some (.string a0_8) := (blk_cell BK465.out 8).trans rfl
      have hcz13_9 : wc.cell? ⟨gb465, 9, none⟩ = some (.slice A0_9 l0_9.length c0_9) := (blk_cell BK465.out 9).trans rfl
      have hfz13_0 := blk_frozen BK465.out 0
      have hfz13_1 := blk_frozen BK465.out 1
      have hfz13_2 := blk_frozen BK465.out 2
      have hfz13_3 := blk_frozen BK465.out 3
      have hfz13_4 := blk_frozen BK465.out 4
      have hfz13_5 := blk_frozen BK465.out 5
      have hfz13_6 := blk_frozen BK465.out 6
      have hfz13_7 := blk_frozen BK465.out 7
      have hfz13_8 := blk_frozen BK465.out 8
      have hfz13_9 := blk_frozen BK465.out 9
      go_wp2_with (first | ((with_reducible refine gate_callee (f := 105) rfl ?_); refine goesL_ (some 25) rfl rfl Tryz.func105 (by kernel_rfl) rfl #[.int .i64 a0_0] rfl (by (try simp only [List.map_toArray, List.map_cons, List.map_nil]); rfl) ?_; (with_reducible refine (spec_isScalar.calls a0_0 true _ A10.out).mono ?_); rintro e w' ⟨rfl, ⟨nd, rfl⟩⟩; refine ⟨_, rfl, ?_⟩))
      go_ret
      exact ⟨by rfl, by repeat ((with_reducible first | exact HB.out | apply pw_below_drewN ))⟩
     ·replace c12 := Bool.eq_false_iff.mpr c12
      subst c12
      have H1 : (some false) = some r := by rw [if_neg (show ¬ (false = true) by decide)] at H; exact H
      clear H
      have H := H1
      clear H1
      obtain rfl := Option.some.inj H
      have hcz14_0 : wc.cell? ⟨gb465, 0, none⟩ = some (.int .i64 a0_0) := (blk_cell BK465.out 0).trans rfl
      have hcz14_1 : wc.cell? ⟨gb465, 1, none⟩ = some (.string a0_1) := (blk_cell BK465.out 1).trans rfl
      have hcz14_2 : wc.cell? ⟨gb465, 2, none⟩ = some (.int .i64 a0_2) := (blk_cell BK465.out 2).trans rfl
      have hcz14_3 : wc.cell? ⟨gb465, 3, none⟩ = some (.slice A0_3 l0_3.length c0_3) := (blk_cell BK465.out 3).trans rfl
      have hcz14_4 : wc.cell? ⟨gb465, 4, none⟩ = some (.slice A0_4 l0_4.length c0_4) := (blk_cell BK465.out 4).trans rfl
      have hcz14_5 : wc.cell? ⟨gb465, 5, none⟩ = some (.slice A0_5 l0_5.length c0_5) := (blk_cell BK465.out 5).trans rfl
      have hcz14_6 : wc.cell? ⟨gb465, 6, none⟩ = some (.string a0_6) := (blk_cell BK465.out 6).trans rfl
      have hcz14_7 : wc.cell? ⟨gb465, 7, none⟩ = some (.string a0_7) := (blk_cell BK465.out 7).trans rfl
      have hcz14_8 : wc.cell? ⟨gb465, 8, none⟩ = some (.string a0_8) := (blk_cell BK465.out 8).trans rfl
      have hcz14_9 : wc.cell? ⟨gb465, 9, none⟩ = some (.slice A0_9 l0_9.length c0_9) := (blk_cell BK465.out 9).trans rfl
      have hfz14_0 := blk_frozen BK465.out 0
      have hfz14_1 := blk_frozen BK465.out 1
      have hfz14_2 := blk_frozen BK465.out 2
      have hfz14_3 := blk_frozen BK465.out 3
      have hfz14_4 := blk_frozen BK465.out 4
      have hfz14_5 := blk_frozen BK465.out 5
      have hfz14_6 := blk_frozen BK465.out 6
      have hfz14_7 := blk_frozen BK465.out 7
      have hfz14_8 := blk_frozen BK465.out 8
      have hfz14_9 := blk_frozen BK465.out 9
      go_wp2_with (first | ((with_reducible refine gate_callee (f := 105) rfl ?_); refine goesL_ (some 25) rfl rfl Tryz.func105 (by kernel_rfl) rfl #[.int .i64 a0_0] rfl (by (try simp only [List.map_toArray, List.map_cons, List.map_nil]); rfl) ?_; (with_reducible refine (spec_isScalar.calls a0_0 true _ A10.out).mono ?_); rintro e w' ⟨rfl, ⟨nd, rfl⟩⟩; refine ⟨_, rfl, ?_⟩))
      go_ret
      exact ⟨by rfl, by repeat ((with_reducible first | exact HB.out | apply pw_below_drewN ))⟩
    ·replace c11 := Bool.eq_false_iff.mpr c11
     subst c11
     have H1 : (if a0_0 = 8 then (if (l0_3.length : Int) = 0 then (some ((l0_5.length : Int) == 0)) else (some false)) else (if a0_0 = 9 then (if (l0_3.length : Int) = (l0_4.length : Int) then (some ((l0_5.length : Int) == 0)) else (some false)) else (if a0_0 = 7 then (if (l0_3.length : Int) = (l0_4.length : Int) then (if (l0_5.length : Int) = (l0_4.length : Int) then (some (!a1)) else (some false)) else (some false)) else (some false)))) = some r := by rw [if_neg (show ¬ (false = true) by decide)] at H; exact H
     clear H
     have H := H1
     clear H1
     by_cases c15 : a0_0 = 8
     ·rw [if_pos c15] at H
      have c15b0 : (a0_0 == 8) = true := beq_iff_eq.mpr c15
      have c15b1 : (a0_0 != 8) = false := bne_eq_false_iff_eq.mpr c15
      clear c15
      by_cases c16 : (l0_3.length : Int) = 0
      ·rw [if_pos c16] at H
       have c16b0 : ((l0_3.length : Int) == 0) = true := beq_iff_eq.mpr c16
       have c16b1 : ((l0_3.length : Int) != 0) = false := bne_eq_false_iff_eq.mpr c16
       clear c16
       obtain rfl := Option.some.inj H
       have hcz17_0 : wc.cell? ⟨gb465, 0, none⟩ = some (.int .i64 a0_0) := (blk_cell BK465.out 0).trans rfl
       have hcz17_1 : wc.cell? ⟨gb465, 1, none⟩ = some (.string a0_1) := (blk_cell BK465.out 1).trans rfl
       have hcz17_2 : wc.cell? ⟨gb465, 2, none⟩ = some (.int .i64 a0_2) := (blk_cell BK465.out 2).trans rfl
       have hcz17_3 : wc.cell? ⟨gb465, 3, none⟩ = some (.slice A0_3 l0_3.length c0_3) := (blk_cell BK465.out 3).trans rfl
       have hcz17_4 : wc.cell? ⟨gb465, 4, none⟩ = some (.slice A0_4 l0_4.length c0_4) := (blk_cell BK465.out 4).trans rfl
       have hcz17_5 : wc.cell? ⟨gb465, 5, none⟩ = some (.slice A0_5 l0_5.length c0_5) := (blk_cell BK465.out 5).trans rfl
       have hcz17_6 : wc.cell? ⟨gb465, 6, none⟩ = some (.string a0_6) := (blk_cell BK465.out 6).trans rfl
       have hcz17_7 : wc.cell? ⟨gb465, 7, none⟩ = some (.string a0_7) := (blk_cell BK465.out 7).trans rfl
       have hcz17_8 : wc.cell? ⟨gb465, 8, none⟩ = some (.string a0_8) := (blk_cell BK465.out 8).trans rfl
       have hcz17_9 : wc.cell? ⟨gb465, 9, none⟩ = some (.slice A0_9 l0_9.length c0_9) := (blk_cell BK465.out 9).trans rfl
       have hfz17_0 := blk_frozen BK465.out 0
       have hfz17_1 := blk_frozen BK465.out 1
       have hfz17_2 := blk_frozen BK465.out 2
       have hfz17_3 := blk_frozen BK465.out 3
       have hfz17_4 := blk_frozen BK465.out 4
       have hfz17_5 := blk_frozen BK465.out 5
       have hfz17_6 := blk_frozen BK465.out 6
       have hfz17_7 := blk_frozen BK465.out 7
       have hfz17_8 := blk_frozen BK465.out 8
       have hfz17_9 := blk_frozen BK465.out 9
       go_wp2_with (first | ((with_reducible refine gate_callee (f := 105) rfl ?_); refine goesL_ (some 25) rfl rfl Tryz.func105 (by kernel_rfl) rfl #[.int .i64 a0_0] rfl (by (try simp only [List.map_toArray, List.map_cons, List.map_nil]); rfl) ?_; (with_reducible refine (spec_isScalar.calls a0_0 false _ A10.out).mono ?_); rintro e w' ⟨rfl, ⟨nd, rfl⟩⟩; refine ⟨_, rfl, ?_⟩))
       go_ret
       exact ⟨by rfl, by repeat ((with_reducible first | exact HB.out | apply pw_below_drewN ))⟩
      ·rw [if_neg c16] at H
       have c16b0 : ((l0_3.length : Int) == 0) = false := beq_eq_false_iff_ne.mpr c16
       have c16b1 : ((l0_3.length : Int) != 0) = true := bne_iff_ne.mpr c16
       have c16b2 : ¬ (l0_3 = []) := fun h_ => c16 (by rw [h_]; rfl)
       obtain rfl := Option.some.inj H
       have hcz18_0 : wc.cell? ⟨gb465, 0, none⟩ = some (.int .i64 a0_0) := (blk_cell BK465.out 0).trans rfl
       have hcz18_1 : wc.cell? ⟨gb465, 1, none⟩ = some (.string a0_1) := (blk_cell BK465.out 1).trans rfl
       have hcz18_2 : wc.cell? ⟨gb465, 2, none⟩ = some (.int .i64 a0_2) := (blk_cell BK465.out 2).trans rfl
       have hcz18_3 : wc.cell? ⟨gb465, 3, none⟩ = some (.slice A0_3 l0_3.length c0_3) := (blk_cell BK465.out 3).trans rfl
       have hcz18_4 : wc.cell? ⟨gb465, 4, none⟩ = some (.slice A0_4 l0_4.length c0_4) := (blk_cell BK465.out 4).trans rfl
       have hcz18_5 : wc.cell? ⟨gb465, 5, none⟩ = some (.slice A0_5 l0_5.length c0_5) := (blk_cell BK465.out 5).trans rfl
       have hcz18_6 : wc.cell? ⟨gb465, 6, none⟩ = some (.string a0_6) := (blk_cell BK465.out 6).trans rfl
       have hcz18_7 : wc.cell? ⟨gb465, 7, none⟩ = some (.string a0_7) := (blk_cell BK465.out 7).trans rfl
       have hcz18_8 : wc.cell? ⟨gb465, 8, none⟩ = some (.string a0_8) := (blk_cell BK465.out 8).trans rfl
       have hcz18_9 : wc.cell? ⟨gb465, 9, none⟩ = some (.slice A0_9 l0_9.length c0_9) := (blk_cell BK465.out 9).trans rfl
       have hfz18_0 := blk_frozen BK465.out 0
       have hfz18_1 := blk_frozen BK465.out 1
       have hfz18_2 := blk_frozen BK465.out 2
       have hfz18_3 := blk_frozen BK465.out 3
       have hfz18_4 := blk_frozen BK465.out 4
       have hfz18_5 := blk_frozen BK465.out 5
       have hfz18_6 := blk_frozen BK465.out 6
       have hfz18_7 := blk_frozen BK465.out 7
       have hfz18_8 := blk_frozen BK465.out 8
       have hfz18_9 := blk_frozen BK465.out 9
       go_wp2_with (first | ((with_reducible refine gate_callee (f := 105) rfl ?_); refine goesL_ (some 25) rfl rfl Tryz.func105 (by kernel_rfl) rfl #[.int .i64 a0_0] rfl (by (try simp only [List.map_toArray, List.map_cons, List.map_nil]); rfl) ?_; (with_reducible refine (spec_isScalar.calls a0_0 false _ A10.out).mono ?_); rintro e w' ⟨rfl, ⟨nd, rfl⟩⟩; refine ⟨_, rfl, ?_⟩))
       go_ret
       exact ⟨by rfl, by repeat ((with_reducible first | exact HB.out | apply pw_below_drewN ))⟩
     ·rw [if_neg c15] at H
      have c15b0 : (a0_0 == 8) = false := beq_eq_false_iff_ne.mpr c15
      have c15b1 : (a0_0 != 8) = true := bne_iff_ne.mpr c15
      by_cases c19 : a0_0 = 9
      ·rw [if_pos c19] at H
       have c19b0 : (a0_0 == 9) = true := beq_iff_eq.mpr c19
       have c19b1 : (a0_0 != 9) = false := bne_eq_false_iff_eq.mpr c19
       clear c19
       by_cases c20 : (l0_3.length : Int) = (l0_4.length : Int)
       ·rw [if_pos c20] at H
        have c20b0 : ((l0_3.length : Int) == (l0_4.length : Int)) = true := beq_iff_eq.mpr c20
        have c20b1 : ((l0_3.length : Int) != (l0_4.length : Int)) = false := bne_eq_false_iff_eq.mpr c20
        have c20b2 : (l0_3.length == l0_4.length) = true := by first | simpa using c20 | (simp at c20 ⊢; omega)
        clear c20
        obtain rfl := Option.some.inj H
        have hcz21_0 : wc.cell? ⟨gb465, 0, none⟩ = some (.int .i64 a0_0) := (blk_cell BK465.out 0).trans rfl
        have hcz21_1 : wc.cell? ⟨gb465, 1, none⟩ = some (.string a0_1) := (blk_cell BK465.out 1).trans rfl
        have hcz21_2 : wc.cell? ⟨gb465, 2, none⟩ = some (.int .i64 a0_2) := (blk_cell BK465.out 2).trans rfl
        have hcz21_3 : wc.cell? ⟨gb465, 3, none⟩ = some (.slice A0_3 l0_3.length c0_3) := (blk_cell BK465.out 3).trans rfl
        have hcz21_4 : wc.cell? ⟨gb465, 4, none⟩ = some (.slice A0_4 l0_4.length c0_4) := (blk_cell BK465.out 4).trans rfl
        have hcz21_5 : wc.cell? ⟨gb465, 5, none⟩ = some (.slice A0_5 l0_5.length c0_5) := (blk_cell BK465.out 5).trans rfl
        have hcz21_6 : wc.cell? ⟨gb465, 6, none⟩ = some (.string a0_6) := (blk_cell BK465.out 6).trans rfl
        have hcz21_7 : wc.cell? ⟨gb465, 7, none⟩ = some (.string a0_7) := (blk_cell BK465.out 7).trans rfl
        have hcz21_8 : wc.cell? ⟨gb465, 8, none⟩ = some (.string a0_8) := (blk_cell BK465.out 8).trans rfl
        have hcz21_9 : wc.cell? ⟨gb465, 9, none⟩ = some (.slice A0_9 l0_9.length c0_9) := (blk_cell BK465.out 9).trans rfl
        have hfz21_0 := blk_frozen BK465.out 0
        have hfz21_1 := blk_frozen BK465.out 1
        have hfz21_2 := blk_frozen BK465.out 2
        have hfz21_3 := blk_frozen BK465.out 3
        have hfz21_4 := blk_frozen BK465.out 4
        have hfz21_5 := blk_frozen BK465.out 5
        have hfz21_6 := blk_frozen BK465.out 6
        have hfz21_7 := blk_frozen BK465.out 7
        have hfz21_8 := blk_frozen BK465.out 8
        have hfz21_9 := blk_frozen BK465.out 9
        go_wp2_with (first | ((with_reducible refine gate_callee (f := 105) rfl ?_); refine goesL_ (some 25) rfl rfl Tryz.func105 (by kernel_rfl) rfl #[.int .i64 a0_0] rfl (by (try simp only [List.map_toArray, List.map_cons, List.map_nil]); rfl) ?_; (with_reducible refine (spec_isScalar.calls a0_0 false _ A10.out).mono ?_); rintro e w' ⟨rfl, ⟨nd, rfl⟩⟩; refine ⟨_, rfl, ?_⟩))
        go_ret
        exact ⟨by rfl, by repeat ((with_reducible first | exact HB.out | apply pw_below_drewN ))⟩
       ·rw [if_neg c20] at H
        have c20b0 : ((l0_3.length : Int) == (l0_4.length : Int)) = false := beq_eq_false_iff_ne.mpr c20
        have c20b1 : ((l0_3.length : Int) != (l0_4.length : Int)) = true := bne_iff_ne.mpr c20
        have c20b2 : (l0_3.length == l0_4.length) = false := by first | simpa using c20 | (simp at c20 ⊢; omega)
        obtain rfl := Option.some.inj H
        have hcz22_0 : wc.cell? ⟨gb465, 0, none⟩ = some (.int .i64 a0_0) := (blk_cell BK465.out 0).trans rfl
        have hcz22_1 : wc.cell? ⟨gb465, 1, none⟩ = some (.string a0_1) := (blk_cell BK465.out 1).trans rfl
        have hcz22_2 : wc.cell? ⟨gb465, 2, none⟩ = some (.int .i64 a0_2) := (blk_cell BK465.out 2).trans rfl
        have hcz22_3 : wc.cell? ⟨gb465, 3, none⟩ = some (.slice A0_3 l0_3.length c0_3) := (blk_cell BK465.out 3).trans rfl
        have hcz22_4 : wc.cell? ⟨gb465, 4, none⟩ = some (.slice A0_4 l0_4.length c0_4) := (blk_cell BK465.out 4).trans rfl
        have hcz22_5 : wc.cell? ⟨gb465, 5, none⟩ = some (.slice A0_5 l0_5.length c0_5) := (blk_cell BK465.out 5).trans rfl
        have hcz22_6 : wc.cell? ⟨gb465, 6, none⟩ = some (.string a0_6) := (blk_cell BK465.out 6).trans rfl
        have hcz22_7 : wc.cell? ⟨gb465, 7, none⟩ = some (.string a0_7) := (blk_cell BK465.out 7).trans rfl
        have hcz22_8 : wc.cell? ⟨gb465, 8, none⟩ = some (.string a0_8) := (blk_cell BK465.out 8).trans rfl
        have hcz22_9 : wc.cell? ⟨gb465, 9, none⟩ = some (.slice A0_9 l0_9.length c0_9) := (blk_cell BK465.out 9).trans rfl
        have hfz22_0 := blk_frozen BK465.out 0
        have hfz22_1 := blk_frozen BK465.out 1
        have hfz22_2 := blk_frozen BK465.out 2
        have hfz22_3 := blk_frozen BK465.out 3
        have hfz22_4 := blk_frozen BK465.out 4
        have hfz22_5 := blk_frozen BK465.out 5
        have hfz22_6 := blk_frozen BK465.out 6
        have hfz22_7 := blk_frozen BK465.out 7
        have hfz22_8 := blk_frozen BK465.out 8
        have hfz22_9 := blk_frozen BK465.out 9
        go_wp2_with (first | ((with_reducible refine gate_callee (f := 105) rfl ?_); refine goesL_ (some 25) rfl rfl Tryz.func105 (by kernel_rfl) rfl #[.int .i64 a0_0] rfl (by (try simp only [List.map_toArray, List.map_cons, List.map_nil]); rfl) ?_; (with_reducible refine (spec_isScalar.calls a0_0 false _ A10.out).mono ?_); rintro e w' ⟨rfl, ⟨nd, rfl⟩⟩; refine ⟨_, rfl, ?_⟩))
        go_ret
        exact ⟨by rfl, by repeat ((with_reducible first | exact HB.out | apply pw_below_drewN ))⟩
      ·rw [if_neg c19] at H
       have c19b0 : (a0_0 == 9) = false := beq_eq_false_iff_ne.mpr c19
       have c19b1 : (a0_0 != 9) = true := bne_iff_ne.mpr c19
       by_cases c23 : a0_0 = 7
       ·rw [if_pos c23] at H
        have c23b0 : (a0_0 == 7) = true := beq_iff_eq.mpr c23
        have c23b1 : (a0_0 != 7) = false := bne_eq_false_iff_eq.mpr c23
        clear c23
        by_cases c24 : (l0_3.length : Int) = (l0_4.length : Int)
        ·rw [if_pos c24] at H
         have c24b0 : ((l0_3.length : Int) == (l0_4.length : Int)) = true := beq_iff_eq.mpr c24
         have c24b1 : ((l0_3.length : Int) != (l0_4.length : Int)) = false := bne_eq_false_iff_eq.mpr c24
         have c24b2 : (l0_3.length == l0_4.length) = true := by first | simpa using c24 | (simp at c24 ⊢; omega)
         clear c24
         by_cases c25 : (l0_5.length : Int) = (l0_4.length : Int)
         ·rw [if_pos c25] at H
          have c25b0 : ((l0_5.length : Int) == (l0_4.length : Int)) = true := beq_iff_eq.mpr c25
          have c25b1 : ((l0_5.length : Int) != (l0_4.length : Int)) = false := bne_eq_false_iff_eq.mpr c25
          have c25b2 : (l0_5.length == l0_4.length) = true := by first | simpa using c25 | (simp at c25 ⊢; omega)
          clear c25
          obtain rfl := Option.some.inj H
          have hcz26_0 : wc.cell? ⟨gb465, 0, none⟩ = some (.int .i64 a0_0) := (blk_cell BK465.out 0).trans rfl
          have hcz26_1 : wc.cell? ⟨gb465, 1, none⟩ = some (.string a0_1) := (blk_cell BK465.out 1).trans rfl
          have hcz26_2 : wc.cell? ⟨gb465, 2, none⟩ = some (.int .i64 a0_2) := (blk_cell BK465.out 2).trans rfl
          have hcz26_3 : wc.cell? ⟨gb465, 3, none⟩ = some (.slice A0_3 l0_3.length c0_3) := (blk_cell BK465.out 3).trans rfl
          have hcz26_4 : wc.cell? ⟨gb465, 4, none⟩ = some (.slice A0_4 l0_4.length c0_4) := (blk_cell BK465.out 4).trans rfl
          have hcz26_5 : wc.cell? ⟨gb465, 5, none⟩ = some (.slice A0_5 l0_5.length c0_5) := (blk_cell BK465.out 5).trans rfl
          have hcz26_6 : wc.cell? ⟨gb465, 6, none⟩ = some (.string a0_6) := (blk_cell BK465.out 6).trans rfl
          have hcz26_7 : wc.cell? ⟨gb465, 7, none⟩ = some (.string a0_7) := (blk_cell BK465.out 7).trans rfl
          have hcz26_8 : wc.cell? ⟨gb465, 8, none⟩ = some (.string a0_8) := (blk_cell BK465.out 8).trans rfl
          have hcz26_9 : wc.cell? ⟨gb465, 9, none⟩ = some (.slice A0_9 l0_9.length c0_9) := (blk_cell BK465.out 9).trans rfl
          have hfz26_0 := blk_frozen BK465.out 0
          have hfz26_1 := blk_frozen BK465.out 1
          have hfz26_2 := blk_frozen BK465.out 2
          have hfz26_3 := blk_frozen BK465.out 3
          have hfz26_4 := blk_frozen BK465.out 4
          have hfz26_5 := blk_frozen BK465.out 5
          have hfz26_6 := blk_frozen BK465.out 6
          have hfz26_7 := blk_frozen BK465.out 7
          have hfz26_8 := blk_frozen BK465.out 8
          have hfz26_9 := blk_frozen BK465.out 9
          go_wp2_with (first | ((with_reducible refine gate_callee (f := 105) rfl ?_); refine goesL_ (some 25) rfl rfl Tryz.func105 (by kernel_rfl) rfl #[.int .i64 a0_0] rfl (by (try simp only [List.map_toArray, List.map_cons, List.map_nil]); rfl) ?_; (with_reducible refine (spec_isScalar.calls a0_0 false _ A10.out).mono ?_); rintro e w' ⟨rfl, ⟨nd, rfl⟩⟩; refine ⟨_, rfl, ?_⟩))
          go_ret
          exact ⟨by rfl, by repeat ((with_reducible first | exact HB.out | apply pw_below_drewN ))⟩
         ·rw [if_neg c25] at H
          have c25b0 : ((l0_5.length : Int) == (l0_4.length : Int)) = false := beq_eq_false_iff_ne.mpr c25
          have c25b1 : ((l0_5.length : Int) != (l0_4.length : Int)) = true := bne_iff_ne.mpr c25
          have c25b2 : (l0_5.length == l0_4.length) = false := by first | simpa using c25 | (simp at c25 ⊢; omega)
          obtain rfl := Option.some.inj H
          have hcz27_0 : wc.cell? ⟨gb465, 0, none⟩ = some (.int .i64 a0_0) := (blk_cell BK465.out 0).trans rfl
          have hcz27_1 : wc.cell? ⟨gb465, 1, none⟩ = some (.string a0_1) := (blk_cell BK465.out 1).trans rfl
          have hcz27_2 : wc.cell? ⟨gb465, 2, none⟩ = some (.int .i64 a0_2) := (blk_cell BK465.out 2).trans rfl
          have hcz27_3 : wc.cell? ⟨gb465, 3, none⟩ = some (.slice A0_3 l0_3.length c0_3) := (blk_cell BK465.out 3).trans rfl
          have hcz27_4 : wc.cell? ⟨gb465, 4, none⟩ = some (.slice A0_4 l0_4.length c0_4) := (blk_cell BK465.out 4).trans rfl
          have hcz27_5 : wc.cell? ⟨gb465, 5, none⟩ = some (.slice A0_5 l0_5.length c0_5) := (blk_cell BK465.out 5).trans rfl
          have hcz27_6 : wc.cell? ⟨gb465, 6, none⟩ = some (.string a0_6) := (blk_cell BK465.out 6).trans rfl
          have hcz27_7 : wc.cell? ⟨gb465, 7, none⟩ = some (.string a0_7) := (blk_cell BK465.out 7).trans rfl
          have hcz27_8 : wc.cell? ⟨gb465, 8, none⟩ = some (.string a0_8) := (blk_cell BK465.out 8).trans rfl
          have hcz27_9 : wc.cell? ⟨gb465, 9, none⟩ = some (.slice A0_9 l0_9.length c0_9) := (blk_cell BK465.out 9).trans rfl
          have hfz27_0 := blk_frozen BK465.out 0
          have hfz27_1 := blk_frozen BK465.out 1
          have hfz27_2 := blk_frozen BK465.out 2
          have hfz27_3 := blk_frozen BK465.out 3
          have hfz27_4 := blk_frozen BK465.out 4
          have hfz27_5 := blk_frozen BK465.out 5
          have hfz27_6 := blk_frozen BK465.out 6
          have hfz27_7 := blk_frozen BK465.out 7
          have hfz27_8 := blk_frozen BK465.out 8
          have hfz27_9 := blk_frozen BK465.out 9
          go_wp2_with (first | ((with_reducible refine gate_callee (f := 105) rfl ?_); refine goesL_ (some 25) rfl rfl Tryz.func105 (by kernel_rfl) rfl #[.int .i64 a0_0] rfl (by (try simp only [List.map_toArray, List.map_cons, List.map_nil]); rfl) ?_; (with_reducible refine (spec_isScalar.calls a0_0 false _ A10.out).mono ?_); rintro e w' ⟨rfl, ⟨nd, rfl⟩⟩; refine ⟨_, rfl, ?_⟩))
          go_ret
          exact ⟨by rfl, by repeat ((with_reducible first | exact HB.out | apply pw_below_drewN ))⟩
        ·rw [if_neg c24] at H
         have c24b0 : ((l0_3.length : Int) == (l0_4.length : Int)) = false := beq_eq_false_iff_ne.mpr c24
         have c24b1 : ((l0_3.length : Int) != (l0_4.length : Int)) = true := bne_iff_ne.mpr c24
         have c24b2 : (l0_3.length == l0_4.length) = false := by first | simpa using c24 | (simp at c24 ⊢; omega)
         obtain rfl := Option.some.inj H
         have hcz28_0 : wc.cell? ⟨gb465, 0, none⟩ = some (.int .i64 a0_0) := (blk_cell BK465.out 0).trans rfl
         have hcz28_1 : wc.cell? ⟨gb465, 1, none⟩ = some (.string a0_1) := (blk_cell BK465.out 1).trans rfl
         have hcz28_2 : wc.cell? ⟨gb465, 2, none⟩ = some (.int .i64 a0_2) := (blk_cell BK465.out 2).trans rfl
         have hcz28_3 : wc.cell? ⟨gb465, 3, none⟩ = some (.slice A0_3 l0_3.length c0_3) := (blk_cell BK465.out 3).trans rfl
         have hcz28_4 : wc.cell? ⟨gb465, 4, none⟩ = some (.slice A0_4 l0_4.length c0_4) := (blk_cell BK465.out 4).trans rfl
         have hcz28_5 : wc.cell? ⟨gb465, 5, none⟩ = some (.slice A0_5 l0_5.length c0_5) := (blk_cell BK465.out 5).trans rfl
         have hcz28_6 : wc.cell? ⟨gb465, 6, none⟩ = some (.string a0_6) := (blk_cell BK465.out 6).trans rfl
         have hcz28_7 : wc.cell? ⟨gb465, 7, none⟩ = some (.string a0_7) := (blk_cell BK465.out 7).trans rfl
         have hcz28_8 : wc.cell? ⟨gb465, 8, none⟩ = some (.string a0_8) := (blk_cell BK465.out 8).trans rfl
         have hcz28_9 : wc.cell? ⟨gb465, 9, none⟩ = some (.slice A0_9 l0_9.length c0_9) := (blk_cell BK465.out 9).trans rfl
         have hfz28_0 := blk_frozen BK465.out 0
         have hfz28_1 := blk_frozen BK465.out 1
         have hfz28_2 := blk_frozen BK465.out 2
         have hfz28_3 := blk_frozen BK465.out 3
         have hfz28_4 := blk_frozen BK465.out 4
         have hfz28_5 := blk_frozen BK465.out 5
         have hfz28_6 := blk_frozen BK465.out 6
         have hfz28_7 := blk_frozen BK465.out 7
         have hfz28_8 := blk_frozen BK465.out 8
         have hfz28_9 := blk_frozen BK465.out 9
         go_wp2_with (first | ((with_reducible refine gate_callee (f := 105) rfl ?_); refine goesL_ (some 25) rfl rfl Tryz.func105 (by kernel_rfl) rfl #[.int .i64 a0_0] rfl (by (try simp only [List.map_toArray, List.map_cons, List.map_nil]); rfl) ?_; (with_reducible refine (spec_isScalar.calls a0_0 false _ A10.out).mono ?_); rintro e w' ⟨rfl, ⟨nd, rfl⟩⟩; refine ⟨_, rfl, ?_⟩))
         go_ret
         exact ⟨by rfl, by repeat ((with_reducible first | exact HB.out | apply pw_below_drewN ))⟩
       ·rw [if_neg c23] at H
        have c23b0 : (a0_0 == 7) = false := beq_eq_false_iff_ne.mpr c23
        have c23b1 : (a0_0 != 7) = true := bne_iff_ne.mpr c23
        obtain rfl := Option.some.inj H
        have hcz29_0 : wc.cell? ⟨gb465, 0, none⟩ = some (.int .i64 a0_0) := (blk_cell BK465.out 0).trans rfl
        have hcz29_1 : wc.cell? ⟨gb465, 1, none⟩ = some (.string a0_1) := (blk_cell BK465.out 1).trans rfl
        have hcz29_2 : wc.cell? ⟨gb465, 2, none⟩ = some (.int .i64 a0_2) := (blk_cell BK465.out 2).trans rfl
        have hcz29_3 : wc.cell? ⟨gb465, 3, none⟩ = some (.slice A0_3 l0_3.length c0_3) := (blk_cell BK465.out 3).trans rfl
        have hcz29_4 : wc.cell? ⟨gb465, 4, none⟩ = some (.slice A0_4 l0_4.length c0_4) := (blk_cell BK465.out 4).trans rfl
        have hcz29_5 : wc.cell? ⟨gb465, 5, none⟩ = some (.slice A0_5 l0_5.length c0_5) := (blk_cell BK465.out 5).trans rfl
        have hcz29_6 : wc.cell? ⟨gb465, 6, none⟩ = some (.string a0_6) := (blk_cell BK465.out 6).trans rfl
        have hcz29_7 : wc.cell? ⟨gb465, 7, none⟩ = some (.string a0_7) := (blk_cell BK465.out 7).trans rfl
        have hcz29_8 : wc.cell? ⟨gb465, 8, none⟩ = some (.string a0_8) := (blk_cell BK465.out 8).trans rfl
        have hcz29_9 : wc.cell? ⟨gb465, 9, none⟩ = some (.slice A0_9 l0_9.length c0_9) := (blk_cell BK465.out 9).trans rfl
        have hfz29_0 := blk_frozen BK465.out 0
        have hfz29_1 := blk_frozen BK465.out 1
        have hfz29_2 := blk_frozen BK465.out 2
        have hfz29_3 := blk_frozen BK465.out 3
        have hfz29_4 := blk_frozen BK465.out 4
        have hfz29_5 := blk_frozen BK465.out 5
        have hfz29_6 := blk_frozen BK465.out 6
        have hfz29_7 := blk_frozen BK465.out 7
        have hfz29_8 := blk_frozen BK465.out 8
        have hfz29_9 := blk_frozen BK465.out 9
        go_wp2_with (first | ((with_reducible refine gate_callee (f := 105) rfl ?_); refine goesL_ (some 25) rfl rfl Tryz.func105 (by kernel_rfl) rfl #[.int .i64 a0_0] rfl (by (try simp only [List.map_toArray, List.map_cons, List.map_nil]); rfl) ?_; (with_reducible refine (spec_isScalar.calls a0_0 false _ A10.out).mono ?_); rintro e w' ⟨rfl, ⟨nd, rfl⟩⟩; refine ⟨_, rfl, ?_⟩))
        go_ret
        exact ⟨by rfl, by repeat ((with_reducible first | exact HB.out | apply pw_below_drewN ))⟩

end Go.Proofs.YtkihaebaccdjdaaGreatDoor.PX
