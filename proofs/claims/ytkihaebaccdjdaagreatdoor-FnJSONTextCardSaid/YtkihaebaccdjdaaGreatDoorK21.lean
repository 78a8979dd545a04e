import Derived.Test.YtkihaebaccdjdaaGreatDoorK7
namespace Go.Proofs.YtkihaebaccdjdaaGreatDoor.PX
open Go.RowKit Go.Proofs.YtkihaebaccdjdaaGreatDoorW.PrintWords Go.Proofs.YtkihaebaccdjdaaGreatDoorW.PrintLast Go.Proofs.YtkihaebaccdjdaaGreatDoorW.PrintMore
attribute [local go_sem] max2_int min2_int max_two min_two max_three min_three max_four min_four   -- for this text's walks alone
set_option linter.unusedVariables false
set_option linter.unusedSimpArgs false

/-! ### smxml_isInCharacterRange: function 216 -/
def smxml_isInCharacterRange.f (a0 : Int) : Option (Bool) := if a0 = 9 then (some true) else (if a0 = 10 then (some true) else (if a0 = 13 then (some true) else (if a0 ≥ 32 then (if a0 ≤ 55295 then (some true) else (if a0 ≥ 57344 then (if a0 ≤ 65533 then (some true) else (if a0 ≥ 65536 then (some (decide (a0 ≤ 1114111))) else (some false))) else (if a0 ≥ 65536 then (some (decide (a0 ≤ 1114111))) else (some false)))) else (if a0 ≥ 57344 then (if a0 ≤ 65533 then (some true) else (if a0 ≥ 65536 then (some (decide (a0 ≤ 1114111))) else (some false))) else (if a0 ≥ 65536 then (some (decide (a0 ≤ 1114111))) else (some false))))))
set_option maxHeartbeats 8000000 in
set_option maxRecDepth 100000 in
theorem smxml_isInCharacterRange.calls (a0 : Int) (r : Bool) (w : World) (h : smxml_isInCharacterRange.f a0 = some r) :
    Calls Tryz.prog 216 #[.int .i32 a0] w fun e w' => e = .returned (.bool r) ∧ Drawn0 w w' := by
  have H : (if a0 = 9 then (some true) else (if a0 = 10 then (some true) else (if a0 = 13 then (some true) else (if a0 ≥ 32 then (if a0 ≤ 55295 then (some true) else (if a0 ≥ 57344 then (if a0 ≤ 65533 then (some true) else (if a0 ≥ 65536 then (some (decide (a0 ≤ 1114111))) else (some false))) else (if a0 ≥ 65536 then (some (decide (a0 ≤ 1114111))) else (some false)))) else (if a0 ≥ 57344 then (if a0 ≤ 65533 then (some true) else (if a0 ≥ 65536 then (some (decide (a0 ≤ 1114111))) else (some false))) else (if a0 ≥ 65536 then (some (decide (a0 ≤ 1114111))) else (some false))))))) = some r := h
  clear h
  by_cases c2 : a0 = 9
  · rw [if_pos c2] at H
    have c2b0 : (a0 == 9) = true := beq_iff_eq.mpr c2
    have c2b1 : (a0 != 9) = false := bne_eq_false_iff_eq.mpr c2
    clear c2
    obtain rfl := Option.some.inj H
    go_enter Tryz.func216, Tryz.ntmps216
    go_wp2
    go_ret
    exact ⟨by first | rfl | (simp; done) | (simp [*]; done), by repeat (first | exact Drawn0.refl _ | apply Drawn0.step)⟩
  · rw [if_neg c2] at H
    have c2b0 : (a0 == 9) = false := beq_eq_false_iff_ne.mpr c2
    have c2b1 : (a0 != 9) = true := bne_iff_ne.mpr c2
    by_cases c3 : a0 = 10
    · rw [if_pos c3] at H
      have c3b0 : (a0 == 10) = true := beq_iff_eq.mpr c3
      have c3b1 : (a0 != 10) = false := bne_eq_false_iff_eq.mpr c3
      clear c3
      obtain rfl := Option.some.inj H
      go_enter Tryz.func216, Tryz.ntmps216
      go_wp2
      go_ret
      exact ⟨by first | rfl | (simp; done) | (simp [*]; done), by repeat (first | exact Drawn0.refl _ | apply Drawn0.step)⟩
    · rw [if_neg c3] at H
      have c3b0 : (a0 == 10) = false := beq_eq_false_iff_ne.mpr c3
      have c3b1 : (a0 != 10) = true := bne_iff_ne.mpr c3
      by_cases c4 : a0 = 13
      · rw [if_pos c4] at H
        have c4b0 : (a0 == 13) = true := beq_iff_eq.mpr c4
        have c4b1 : (a0 != 13) = false := bne_eq_false_iff_eq.mpr c4
        clear c4
        obtain rfl := Option.some.inj H
        go_enter Tryz.func216, Tryz.ntmps216
        go_wp2
        go_ret
        exact ⟨by first | rfl | (simp; done) | (simp [*]; done), by repeat (first | exact Drawn0.refl _ | apply Drawn0.step)⟩
      · rw [if_neg c4] at H
        have c4b0 : (a0 == 13) = false := beq_eq_false_iff_ne.mpr c4
        have c4b1 : (a0 != 13) = true := bne_iff_ne.mpr c4
        by_cases c5 : a0 ≥ 32
        · rw [if_pos c5] at H
          have c5b0 : decide (32 ≤ a0) = true := decide_eq_true c5
          clear c5
          by_cases c6 : a0 ≤ 55295
          · rw [if_pos c6] at H
            have c6b0 : decide (a0 ≤ 55295) = true := decide_eq_true c6
            clear c6
            obtain rfl := Option.some.inj H
            go_enter Tryz.func216, Tryz.ntmps216
            go_wp2
            go_ret
            exact ⟨by first | rfl | (simp; done) | (simp [*]; done), by repeat (first | exact Drawn0.refl _ | apply Drawn0.step)⟩
          · rw [if_neg c6] at H
            have c6b0 : decide (a0 ≤ 55295) = false := decide_eq_false c6
            clear c6
            by_cases c7 : a0 ≥ 57344
            · rw [if_pos c7] at H
              have c7b0 : decide (57344 ≤ a0) = true := decide_eq_true c7
              clear c7
              by_cases c8 : a0 ≤ 65533
              · rw [if_pos c8] at H
                have c8b0 : decide (a0 ≤ 65533) = true := decide_eq_true c8
                clear c8
                obtain rfl := Option.some.inj H
                go_enter Tryz.func216, Tryz.ntmps216
                go_wp2
                go_ret
                exact ⟨by first | rfl | (simp; done) | (simp [*]; done), by repeat (first | exact Drawn0.refl _ | apply Drawn0.step)⟩
              · rw [if_neg c8] at H
                have c8b0 : decide (a0 ≤ 65533) = false := decide_eq_false c8
                clear c8
                by_cases c9 : a0 ≥ 65536
                · rw [if_pos c9] at H
                  have c9b0 : decide (65536 ≤ a0) = true := decide_eq_true c9
                  clear c9
                  obtain rfl := Option.some.inj H
                  go_enter Tryz.func216, Tryz.ntmps216
                  go_wp2
                  go_ret
                  exact ⟨by first | rfl | (simp; done) | (simp [*]; done), by repeat (first | exact Drawn0.refl _ | apply Drawn0.step)⟩
                · rw [if_neg c9] at H
                  have c9b0 : decide (65536 ≤ a0) = false := decide_eq_false c9
                  clear c9
                  obtain rfl := Option.some.inj H
                  go_enter Tryz.func216, Tryz.ntmps216
                  go_wp2
                  go_ret
                  exact ⟨by first | rfl | (simp; done) | (simp [*]; done), by repeat (first | exact Drawn0.refl _ | apply Drawn0.step)⟩
            · rw [if_neg c7] at H
              have c7b0 : decide (57344 ≤ a0) = false := decide_eq_false c7
              clear c7
              by_cases c10 : a0 ≥ 65536
              · rw [if_pos c10] at H
                have c10b0 : decide (65536 ≤ a0) = true := decide_eq_true c10
                clear c10
                obtain rfl := Option.some.inj H
                go_enter Tryz.func216, Tryz.ntmps216
                go_wp2
                go_ret
                exact ⟨by first | rfl | (simp; done) | (simp [*]; done), by repeat (first | exact Drawn0.refl _ | apply Drawn0.step)⟩
              · rw [if_neg c10] at H
                have c10b0 : decide (65536 ≤ a0) = false := decide_eq_false c10
                clear c10
                obtain rfl := Option.some.inj H
                go_enter Tryz.func216, Tryz.ntmps216
                go_wp2
                go_ret
                exact ⟨by first | rfl | (simp; done) | (simp [*]; done), by repeat (first | exact Drawn0.refl _ | apply Drawn0.step)⟩
        · rw [if_neg c5] at H
          have c5b0 : decide (32 ≤ a0) = false := decide_eq_false c5
          clear c5
          by_cases c11 : a0 ≥ 57344
          · rw [if_pos c11] at H
            have c11b0 : decide (57344 ≤ a0) = true := decide_eq_true c11
            clear c11
            by_cases c12 : a0 ≤ 65533
            · rw [if_pos c12] at H
              have c12b0 : decide (a0 ≤ 65533) = true := decide_eq_true c12
              clear c12
              obtain rfl := Option.some.inj H
              go_enter Tryz.func216, Tryz.ntmps216
              go_wp2
              go_ret
              exact ⟨by first | rfl | (simp; done) | (simp [*]; done), by repeat (first | exact Drawn0.refl _ | apply Drawn0.step)⟩
            · rw [if_neg c12] at H
              have c12b0 : decide (a0 ≤ 65533) = false := decide_eq_false c12
              clear c12
              by_cases c13 : a0 ≥ 65536
              · rw [if_pos c13] at H
                have c13b0 : decide (65536 ≤ a0) = true := decide_eq_true c13
                clear c13
                obtain rfl := Option.some.inj H
                go_enter Tryz.func216, Tryz.ntmps216
                go_wp2
                go_ret
                exact ⟨by first | rfl | (simp; done) | (simp [*]; done), by repeat (first | exact Drawn0.refl _ | apply Drawn0.step)⟩
              · rw [if_neg c13] at H
                have c13b0 : decide (65536 ≤ a0) = false := decide_eq_false c13
                clear c13
                obtain rfl := Option.some.inj H
                go_enter Tryz.func216, Tryz.ntmps216
                go_wp2
                go_ret
                exact ⟨by first | rfl | (simp; done) | (simp [*]; done), by repeat (first | exact Drawn0.refl _ | apply Drawn0.step)⟩
          · rw [if_neg c11] at H
            have c11b0 : decide (57344 ≤ a0) = false := decide_eq_false c11
            clear c11
            by_cases c14 : a0 ≥ 65536
            · rw [if_pos c14] at H
              have c14b0 : decide (65536 ≤ a0) = true := decide_eq_true c14
              clear c14
              obtain rfl := Option.some.inj H
              go_enter Tryz.func216, Tryz.ntmps216
              go_wp2
              go_ret
              exact ⟨by first | rfl | (simp; done) | (simp [*]; done), by repeat (first | exact Drawn0.refl _ | apply Drawn0.step)⟩
            · rw [if_neg c14] at H
              have c14b0 : decide (65536 ≤ a0) = false := decide_eq_false c14
              clear c14
              obtain rfl := Option.some.inj H
              go_enter Tryz.func216, Tryz.ntmps216
              go_wp2
              go_ret
              exact ⟨by first | rfl | (simp; done) | (simp [*]; done), by repeat (first | exact Drawn0.refl _ | apply Drawn0.step)⟩

end Go.Proofs.YtkihaebaccdjdaaGreatDoor.PX
