import Derived.Test.YtkihaebaccdjdaaGreatDoorX5
namespace Go.Proofs.YtkihaebaccdjdaaGreatDoor.PX
open Go.RowKit Go.Proofs.YtkihaebaccdjdaaGreatDoorW.PrintWords Go.Proofs.YtkihaebaccdjdaaGreatDoorW.PrintLast Go.Proofs.YtkihaebaccdjdaaGreatDoorW.PrintMore
attribute [local go_sem] max2_int min2_int max_two min_two max_three min_three max_four min_four   -- for this text's walks alone
set_option linter.unusedVariables false
set_option linter.unusedSimpArgs false

/-! ### spec_isScalar: function 105 -/
def spec_isScalar.f (a0 : Int) : Option (Bool) := if a0 ≥ 0 then (if a0 ≤ 6 then (some true) else (if a0 = 10 then (some true) else (some (a0 == 11)))) else (if a0 = 10 then (some true) else (some (a0 == 11)))
set_option maxHeartbeats 8000000 in
set_option maxRecDepth 100000 in
theorem spec_isScalar.calls (a0 : Int) (r : Bool) (w : World) (h : spec_isScalar.f a0 = some r) :
 Calls Tryz.prog 105 #[.int .i64 a0] w fun e w' => e = .returned (.bool r) ∧ Drawn0 w w' := by
 have H : (if a0 ≥ 0 then (if a0 ≤ 6 then (some true) else (if a0 = 10 then (some true) else (some (a0 == 11)))) else (if a0 = 10 then (some true) else (some (a0 == 11)))) = some r := h
 clear h
 by_cases c2 : a0 ≥ 0
 ·rw [if_pos c2] at H
  have c2b0 : decide (0 ≤ a0) = true := decide_eq_true c2
  clear c2
  by_cases c3 : a0 ≤ 6
  ·rw [if_pos c3] at H
   have c3b0 : decide (a0 ≤ 6) = true := decide_eq_true c3
   clear c3
   obtain rfl := Option.some.inj H
   go_enter Tryz.func105, Tryz.ntmps105
   go_wp2
   go_ret
   exact ⟨by first | rfl | (simp; done) | (simp [*]; done), by repeat (first | exact Drawn0.refl _ | apply Drawn0.step)⟩
  ·rw [if_neg c3] at H
   have c3b0 : decide (a0 ≤ 6) = false := decide_eq_false c3
   clear c3
   by_cases c4 : a0 = 10
   ·rw [if_pos c4] at H
    have c4b0 : (a0 == 10) = true := beq_iff_eq.mpr c4
    have c4b1 : (a0 != 10) = false := bne_eq_false_iff_eq.mpr c4
    clear c4
    obtain rfl := Option.some.inj H
    go_enter Tryz.func105, Tryz.ntmps105
    go_wp2
    go_ret
    exact ⟨by first | rfl | (simp; done) | (simp [*]; done), by repeat (first | exact Drawn0.refl _ | apply Drawn0.step)⟩
   ·rw [if_neg c4] at H
    have c4b0 : (a0 == 10) = false := beq_eq_false_iff_ne.mpr c4
    have c4b1 : (a0 != 10) = true := bne_iff_ne.mpr c4
    obtain rfl := Option.some.inj H
    go_enter Tryz.func105, Tryz.ntmps105
    go_wp2
    go_ret
    exact ⟨by first | rfl | (simp; done) | (simp [*]; done), by repeat (first | exact Drawn0.refl _ | apply Drawn0.step)⟩
 ·rw [if_neg c2] at H
  have c2b0 : decide (0 ≤ a0) = false := decide_eq_false c2
  clear c2
  by_cases c5 : a0 = 10
  ·rw [if_pos c5] at H
   have c5b0 : (a0 == 10) = true := beq_iff_eq.mpr c5
   have c5b1 : (a0 != 10) = false := bne_eq_false_iff_eq.mpr c5
   clear c5
   obtain rfl := Option.some.inj H
   go_enter Tryz.func105, Tryz.ntmps105
   go_wp2
   go_ret
   exact ⟨by first | rfl | (simp; done) | (simp [*]; done), by repeat (first | exact Drawn0.refl _ | apply Drawn0.step)⟩
  ·rw [if_neg c5] at H
   have c5b0 : (a0 == 10) = false := beq_eq_false_iff_ne.mpr c5
   have c5b1 : (a0 != 10) = true := bne_iff_ne.mpr c5
   obtain rfl := Option.some.inj H
   go_enter Tryz.func105, Tryz.ntmps105
   go_wp2
   go_ret
   exact ⟨by first | rfl | (simp; done) | (simp [*]; done), by repeat (first | exact Drawn0.refl _ | apply Drawn0.step)⟩

end Go.Proofs.YtkihaebaccdjdaaGreatDoor.PX
