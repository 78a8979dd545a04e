import Derived.Test.YtclmjmfcggkpaaaGreatDoorPXx0
-- printed by this session's own program over the kit's print.py; Lean checks it
namespace Go.Proofs.YtclmjmfcggkpaaaGreatDoor.PX
open Go.RowKit Go.Proofs.YtclmjmfcggkpaaaGreatDoorW.PrintWords Go.Proofs.YtclmjmfcggkpaaaGreatDoorW.PrintLast Go.Proofs.YtclmjmfcggkpaaaGreatDoorW.PrintMore
attribute [local go_sem] max2_int min2_int max_two min_two max_three min_three max_four min_four   -- for this text's walks alone
set_option linter.unusedVariables false
set_option linter.unusedSimpArgs false

/-! ### spec_isUnreserved: function 52 -/
def spec_isUnreserved.f (a0 : Int) : Option (Bool) := if a0 ≥ 97 then (if a0 ≤ 122 then (some true) else (if a0 ≥ 65 then (if a0 ≤ 90 then (some true) else (if a0 ≥ 48 then (if a0 ≤ 57 then (some true) else (if a0 = 45 then (some true) else (if a0 = 46 then (some true) else (if a0 = 95 then (some true) else (some (a0 == 126)))))) else (if a0 = 45 then (some true) else (if a0 = 46 then (some true) else (if a0 = 95 then (some true) else (some (a0 == 126))))))) else (if a0 ≥ 48 then (if a0 ≤ 57 then (some true) else (if a0 = 45 then (some true) else (if a0 = 46 then (some true) else (if a0 = 95 then (some true) else (some (a0 == 126)))))) else (if a0 = 45 then (some true) else (if a0 = 46 then (some true) else (if a0 = 95 then (some true) else (some (a0 == 126)))))))) else (if a0 ≥ 65 then (if a0 ≤ 90 then (some true) else (if a0 ≥ 48 then (if a0 ≤ 57 then (some true) else (if a0 = 45 then (some true) else (if a0 = 46 then (some true) else (if a0 = 95 then (some true) else (some (a0 == 126)))))) else (if a0 = 45 then (some true) else (if a0 = 46 then (some true) else (if a0 = 95 then (some true) else (some (a0 == 126))))))) else (if a0 ≥ 48 then (if a0 ≤ 57 then (some true) else (if a0 = 45 then (some true) else (if a0 = 46 then (some true) else (if a0 = 95 then (some true) else (some (a0 == 126)))))) else (if a0 = 45 then (some true) else (if a0 = 46 then (some true) else (if a0 = 95 then (some true) else (some (a0 == 126)))))))
set_option maxHeartbeats 8000000 in
set_option maxRecDepth 100000 in
theorem spec_isUnreserved.calls (a0 : Int) (r : Bool) (w : World) (h : spec_isUnreserved.f a0 = some r) :
    Calls Tryz.prog 52 #[.int .u8 a0] w fun e w' => e = .returned (.bool r) ∧ Drawn0 w w' := by
  have H : (if a0 ≥ 97 then (if a0 ≤ 122 then (some true) else (if a0 ≥ 65 then (if a0 ≤ 90 then (some true) else (if a0 ≥ 48 then (if a0 ≤ 57 then (some true) else (if a0 = 45 then (some true) else (if a0 = 46 then (some true) else (if a0 = 95 then (some true) else (some (a0 == 126)))))) else (if a0 = 45 then (some true) else (if a0 = 46 then (some true) else (if a0 = 95 then (some true) else (some (a0 == 126))))))) else (if a0 ≥ 48 then (if a0 ≤ 57 then (some true) else (if a0 = 45 then (some true) else (if a0 = 46 then (some true) else (if a0 = 95 then (some true) else (some (a0 == 126)))))) else (if a0 = 45 then (some true) else (if a0 = 46 then (some true) else (if a0 = 95 then (some true) else (some (a0 == 126)))))))) else (if a0 ≥ 65 then (if a0 ≤ 90 then (some true) else (if a0 ≥ 48 then (if a0 ≤ 57 then (some true) else (if a0 = 45 then (some true) else (if a0 = 46 then (some true) else (if a0 = 95 then (some true) else (some (a0 == 126)))))) else (if a0 = 45 then (some true) else (if a0 = 46 then (some true) else (if a0 = 95 then (some true) else (some (a0 == 126))))))) else (if a0 ≥ 48 then (if a0 ≤ 57 then (some true) else (if a0 = 45 then (some true) else (if a0 = 46 then (some true) else (if a0 = 95 then (some true) else (some (a0 == 126)))))) else (if a0 = 45 then (some true) else (if a0 = 46 then (some true) else (if a0 = 95 then (some true) else (some (a0 == 126)))))))) = some r := h
  clear h
  by_cases c2 : a0 ≥ 97
  · rw [if_pos c2] at H
    have c2b0 : decide (97 ≤ a0) = true := decide_eq_true c2
    clear c2
    by_cases c3 : a0 ≤ 122
    · rw [if_pos c3] at H
      have c3b0 : decide (a0 ≤ 122) = true := decide_eq_true c3
      clear c3
      obtain rfl := Option.some.inj H
      go_enter Tryz.func52, Tryz.ntmps52
      go_wp2
      go_ret
      exact ⟨by first | rfl | (simp; done) | (simp [*]; done), by repeat (first | exact Drawn0.refl _ | apply Drawn0.step)⟩
    · rw [if_neg c3] at H
      have c3b0 : decide (a0 ≤ 122) = false := decide_eq_false c3
      clear c3
      by_cases c4 : a0 ≥ 65
      · rw [if_pos c4] at H
        have c4b0 : decide (65 ≤ a0) = true := decide_eq_true c4
        clear c4
        by_cases c5 : a0 ≤ 90
        · rw [if_pos c5] at H
          have c5b0 : decide (a0 ≤ 90) = true := decide_eq_true c5
          clear c5
          obtain rfl := Option.some.inj H
          go_enter Tryz.func52, Tryz.ntmps52
          go_wp2
          go_ret
          exact ⟨by first | rfl | (simp; done) | (simp [*]; done), by repeat (first | exact Drawn0.refl _ | apply Drawn0.step)⟩
        · rw [if_neg c5] at H
          have c5b0 : decide (a0 ≤ 90) = false := decide_eq_false c5
          clear c5
          by_cases c6 : a0 ≥ 48
          · rw [if_pos c6] at H
            have c6b0 : decide (48 ≤ a0) = true := decide_eq_true c6
            clear c6
            by_cases c7 : a0 ≤ 57
            · rw [if_pos c7] at H
              have c7b0 : decide (a0 ≤ 57) = true := decide_eq_true c7
              clear c7
              obtain rfl := Option.some.inj H
              go_enter Tryz.func52, Tryz.ntmps52
              go_wp2
              go_ret
              exact ⟨by first | rfl | (simp; done) | (simp [*]; done), by repeat (first | exact Drawn0.refl _ | apply Drawn0.step)⟩
            · rw [if_neg c7] at H
              have c7b0 : decide (a0 ≤ 57) = false := decide_eq_false c7
              clear c7
              by_cases c8 : a0 = 45
              · rw [if_pos c8] at H
                have c8b0 : (a0 == 45) = true := beq_iff_eq.mpr c8
                have c8b1 : (a0 != 45) = false := bne_eq_false_iff_eq.mpr c8
                clear c8
                obtain rfl := Option.some.inj H
                go_enter Tryz.func52, Tryz.ntmps52
                go_wp2
                go_ret
                exact ⟨by first | rfl | (simp; done) | (simp [*]; done), by repeat (first | exact Drawn0.refl _ | apply Drawn0.step)⟩
              · rw [if_neg c8] at H
                have c8b0 : (a0 == 45) = false := beq_eq_false_iff_ne.mpr c8
                have c8b1 : (a0 != 45) = true := bne_iff_ne.mpr c8
                by_cases c9 : a0 = 46
                · rw [if_pos c9] at H
                  have c9b0 : (a0 == 46) = true := beq_iff_eq.mpr c9
                  have c9b1 : (a0 != 46) = false := bne_eq_false_iff_eq.mpr c9
                  clear c9
                  obtain rfl := Option.some.inj H
                  go_enter Tryz.func52, Tryz.ntmps52
                  go_wp2
                  go_ret
                  exact ⟨by first | rfl | (simp; done) | (simp [*]; done), by repeat (first | exact Drawn0.refl _ | apply Drawn0.step)⟩
                · rw [if_neg c9] at H
                  have c9b0 : (a0 == 46) = false := beq_eq_false_iff_ne.mpr c9
                  have c9b1 : (a0 != 46) = true := bne_iff_ne.mpr c9
                  by_cases c10 : a0 = 95
                  · rw [if_pos c10] at H
                    have c10b0 : (a0 == 95) = true := beq_iff_eq.mpr c10
                    have c10b1 : (a0 != 95) = false := bne_eq_false_iff_eq.mpr c10
                    clear c10
                    obtain rfl := Option.some.inj H
                    go_enter Tryz.func52, Tryz.ntmps52
                    go_wp2
                    go_ret
                    exact ⟨by first | rfl | (simp; done) | (simp [*]; done), by repeat (first | exact Drawn0.refl _ | apply Drawn0.step)⟩
                  · rw [if_neg c10] at H
                    have c10b0 : (a0 == 95) = false := beq_eq_false_iff_ne.mpr c10
                    have c10b1 : (a0 != 95) = true := bne_iff_ne.mpr c10
                    obtain rfl := Option.some.inj H
                    go_enter Tryz.func52, Tryz.ntmps52
                    go_wp2
                    go_ret
                    exact ⟨by first | rfl | (simp; done) | (simp [*]; done), by repeat (first | exact Drawn0.refl _ | apply Drawn0.step)⟩
          · rw [if_neg c6] at H
            have c6b0 : decide (48 ≤ a0) = false := decide_eq_false c6
            clear c6
            by_cases c11 : a0 = 45
            · rw [if_pos c11] at H
              have c11b0 : (a0 == 45) = true := beq_iff_eq.mpr c11
              have c11b1 : (a0 != 45) = false := bne_eq_false_iff_eq.mpr c11
              clear c11
              obtain rfl := Option.some.inj H
              go_enter Tryz.func52, Tryz.ntmps52
              go_wp2
              go_ret
              exact ⟨by first | rfl | (simp; done) | (simp [*]; done), by repeat (first | exact Drawn0.refl _ | apply Drawn0.step)⟩
            · rw [if_neg c11] at H
              have c11b0 : (a0 == 45) = false := beq_eq_false_iff_ne.mpr c11
              have c11b1 : (a0 != 45) = true := bne_iff_ne.mpr c11
              by_cases c12 : a0 = 46
              · rw [if_pos c12] at H
                have c12b0 : (a0 == 46) = true := beq_iff_eq.mpr c12
                have c12b1 : (a0 != 46) = false := bne_eq_false_iff_eq.mpr c12
                clear c12
                obtain rfl := Option.some.inj H
                go_enter Tryz.func52, Tryz.ntmps52
                go_wp2
                go_ret
                exact ⟨by first | rfl | (simp; done) | (simp [*]; done), by repeat (first | exact Drawn0.refl _ | apply Drawn0.step)⟩
              · rw [if_neg c12] at H
                have c12b0 : (a0 == 46) = false := beq_eq_false_iff_ne.mpr c12
                have c12b1 : (a0 != 46) = true := bne_iff_ne.mpr c12
                by_cases c13 : a0 = 95
                · rw [if_pos c13] at H
                  have c13b0 : (a0 == 95) = true := beq_iff_eq.mpr c13
                  have c13b1 : (a0 != 95) = false := bne_eq_false_iff_eq.mpr c13
                  clear c13
                  obtain rfl := Option.some.inj H
                  go_enter Tryz.func52, Tryz.ntmps52
                  go_wp2
                  go_ret
                  exact ⟨by first | rfl | (simp; done) | (simp [*]; done), by repeat (first | exact Drawn0.refl _ | apply Drawn0.step)⟩
                · rw [if_neg c13] at H
                  have c13b0 : (a0 == 95) = false := beq_eq_false_iff_ne.mpr c13
                  have c13b1 : (a0 != 95) = true := bne_iff_ne.mpr c13
                  obtain rfl := Option.some.inj H
                  go_enter Tryz.func52, Tryz.ntmps52
                  go_wp2
                  go_ret
                  exact ⟨by first | rfl | (simp; done) | (simp [*]; done), by repeat (first | exact Drawn0.refl _ | apply Drawn0.step)⟩
      · rw [if_neg c4] at H
        have c4b0 : decide (65 ≤ a0) = false := decide_eq_false c4
        clear c4
        by_cases c14 : a0 ≥ 48
        · rw [if_pos c14] at H
          have c14b0 : decide (48 ≤ a0) = true := decide_eq_true c14
          clear c14
          by_cases c15 : a0 ≤ 57
          · rw [if_pos c15] at H
            have c15b0 : decide (a0 ≤ 57) = true := decide_eq_true c15
            clear c15
            obtain rfl := Option.some.inj H
            go_enter Tryz.func52, Tryz.ntmps52
            go_wp2
            go_ret
            exact ⟨by first | rfl | (simp; done) | (simp [*]; done), by repeat (first | exact Drawn0.refl _ | apply Drawn0.step)⟩
          · rw [if_neg c15] at H
            have c15b0 : decide (a0 ≤ 57) = false := decide_eq_false c15
            clear c15
            by_cases c16 : a0 = 45
            · rw [if_pos c16] at H
              have c16b0 : (a0 == 45) = true := beq_iff_eq.mpr c16
              have c16b1 : (a0 != 45) = false := bne_eq_false_iff_eq.mpr c16
              clear c16
              obtain rfl := Option.some.inj H
              go_enter Tryz.func52, Tryz.ntmps52
              go_wp2
              go_ret
              exact ⟨by first | rfl | (simp; done) | (simp [*]; done), by repeat (first | exact Drawn0.refl _ | apply Drawn0.step)⟩
            · rw [if_neg c16] at H
              have c16b0 : (a0 == 45) = false := beq_eq_false_iff_ne.mpr c16
              have c16b1 : (a0 != 45) = true := bne_iff_ne.mpr c16
              by_cases c17 : a0 = 46
              · rw [if_pos c17] at H
                have c17b0 : (a0 == 46) = true := beq_iff_eq.mpr c17
                have c17b1 : (a0 != 46) = false := bne_eq_false_iff_eq.mpr c17
                clear c17
                obtain rfl := Option.some.inj H
                go_enter Tryz.func52, Tryz.ntmps52
                go_wp2
                go_ret
                exact ⟨by first | rfl | (simp; done) | (simp [*]; done), by repeat (first | exact Drawn0.refl _ | apply Drawn0.step)⟩
              · rw [if_neg c17] at H
                have c17b0 : (a0 == 46) = false := beq_eq_false_iff_ne.mpr c17
                have c17b1 : (a0 != 46) = true := bne_iff_ne.mpr c17
                by_cases c18 : a0 = 95
                · rw [if_pos c18] at H
                  have c18b0 : (a0 == 95) = true := beq_iff_eq.mpr c18
                  have c18b1 : (a0 != 95) = false := bne_eq_false_iff_eq.mpr c18
                  clear c18
                  obtain rfl := Option.some.inj H
                  go_enter Tryz.func52, Tryz.ntmps52
                  go_wp2
                  go_ret
                  exact ⟨by first | rfl | (simp; done) | (simp [*]; done), by repeat (first | exact Drawn0.refl _ | apply Drawn0.step)⟩
                · rw [if_neg c18] at H
                  have c18b0 : (a0 == 95) = false := beq_eq_false_iff_ne.mpr c18
                  have c18b1 : (a0 != 95) = true := bne_iff_ne.mpr c18
                  obtain rfl := Option.some.inj H
                  go_enter Tryz.func52, Tryz.ntmps52
                  go_wp2
                  go_ret
                  exact ⟨by first | rfl | (simp; done) | (simp [*]; done), by repeat (first | exact Drawn0.refl _ | apply Drawn0.step)⟩
        · rw [if_neg c14] at H
          have c14b0 : decide (48 ≤ a0) = false := decide_eq_false c14
          clear c14
          by_cases c19 : a0 = 45
          · rw [if_pos c19] at H
            have c19b0 : (a0 == 45) = true := beq_iff_eq.mpr c19
            have c19b1 : (a0 != 45) = false := bne_eq_false_iff_eq.mpr c19
            clear c19
            obtain rfl := Option.some.inj H
            go_enter Tryz.func52, Tryz.ntmps52
            go_wp2
            go_ret
            exact ⟨by first | rfl | (simp; done) | (simp [*]; done), by repeat (first | exact Drawn0.refl _ | apply Drawn0.step)⟩
          · rw [if_neg c19] at H
            have c19b0 : (a0 == 45) = false := beq_eq_false_iff_ne.mpr c19
            have c19b1 : (a0 != 45) = true := bne_iff_ne.mpr c19
            by_cases c20 : a0 = 46
            · rw [if_pos c20] at H
              have c20b0 : (a0 == 46) = true := beq_iff_eq.mpr c20
              have c20b1 : (a0 != 46) = false := bne_eq_false_iff_eq.mpr c20
              clear c20
              obtain rfl := Option.some.inj H
              go_enter Tryz.func52, Tryz.ntmps52
              go_wp2
              go_ret
              exact ⟨by first | rfl | (simp; done) | (simp [*]; done), by repeat (first | exact Drawn0.refl _ | apply Drawn0.step)⟩
            · rw [if_neg c20] at H
              have c20b0 : (a0 == 46) = false := beq_eq_false_iff_ne.mpr c20
              have c20b1 : (a0 != 46) = true := bne_iff_ne.mpr c20
              by_cases c21 : a0 = 95
              · rw [if_pos c21] at H
                have c21b0 : (a0 == 95) = true := beq_iff_eq.mpr c21
                have c21b1 : (a0 != 95) = false := bne_eq_false_iff_eq.mpr c21
                clear c21
                obtain rfl := Option.some.inj H
                go_enter Tryz.func52, Tryz.ntmps52
                go_wp2
                go_ret
                exact ⟨by first | rfl | (simp; done) | (simp [*]; done), by repeat (first | exact Drawn0.refl _ | apply Drawn0.step)⟩
              · rw [if_neg c21] at H
                have c21b0 : (a0 == 95) = false := beq_eq_false_iff_ne.mpr c21
                have c21b1 : (a0 != 95) = true := bne_iff_ne.mpr c21
                obtain rfl := Option.some.inj H
                go_enter Tryz.func52, Tryz.ntmps52
                go_wp2
                go_ret
                exact ⟨by first | rfl | (simp; done) | (simp [*]; done), by repeat (first | exact Drawn0.refl _ | apply Drawn0.step)⟩
  · rw [if_neg c2] at H
    have c2b0 : decide (97 ≤ a0) = false := decide_eq_false c2
    clear c2
    by_cases c22 : a0 ≥ 65
    · rw [if_pos c22] at H
      have c22b0 : decide (65 ≤ a0) = true := decide_eq_true c22
      clear c22
      by_cases c23 : a0 ≤ 90
      · rw [if_pos c23] at H
        have c23b0 : decide (a0 ≤ 90) = true := decide_eq_true c23
        clear c23
        obtain rfl := Option.some.inj H
        go_enter Tryz.func52, Tryz.ntmps52
        go_wp2
        go_ret
        exact ⟨by first | rfl | (simp; done) | (simp [*]; done), by repeat (first | exact Drawn0.refl _ | apply Drawn0.step)⟩
      · rw [if_neg c23] at H
        have c23b0 : decide (a0 ≤ 90) = false := decide_eq_false c23
        clear c23
        by_cases c24 : a0 ≥ 48
        · rw [if_pos c24] at H
          have c24b0 : decide (48 ≤ a0) = true := decide_eq_true c24
          clear c24
          by_cases c25 : a0 ≤ 57
          · rw [if_pos c25] at H
            have c25b0 : decide (a0 ≤ 57) = true := decide_eq_true c25
            clear c25
            obtain rfl := Option.some.inj H
            go_enter Tryz.func52, Tryz.ntmps52
            go_wp2
            go_ret
            exact ⟨by first | rfl | (simp; done) | (simp [*]; done), by repeat (first | exact Drawn0.refl _ | apply Drawn0.step)⟩
          · rw [if_neg c25] at H
            have c25b0 : decide (a0 ≤ 57) = false := decide_eq_false c25
            clear c25
            by_cases c26 : a0 = 45
            · rw [if_pos c26] at H
              have c26b0 : (a0 == 45) = true := beq_iff_eq.mpr c26
              have c26b1 : (a0 != 45) = false := bne_eq_false_iff_eq.mpr c26
              clear c26
              obtain rfl := Option.some.inj H
              go_enter Tryz.func52, Tryz.ntmps52
              go_wp2
              go_ret
              exact ⟨by first | rfl | (simp; done) | (simp [*]; done), by repeat (first | exact Drawn0.refl _ | apply Drawn0.step)⟩
            · rw [if_neg c26] at H
              have c26b0 : (a0 == 45) = false := beq_eq_false_iff_ne.mpr c26
              have c26b1 : (a0 != 45) = true := bne_iff_ne.mpr c26
              by_cases c27 : a0 = 46
              · rw [if_pos c27] at H
                have c27b0 : (a0 == 46) = true := beq_iff_eq.mpr c27
                have c27b1 : (a0 != 46) = false := bne_eq_false_iff_eq.mpr c27
                clear c27
                obtain rfl := Option.some.inj H
                go_enter Tryz.func52, Tryz.ntmps52
                go_wp2
                go_ret
                exact ⟨by first | rfl | (simp; done) | (simp [*]; done), by repeat (first | exact Drawn0.refl _ | apply Drawn0.step)⟩
              · rw [if_neg c27] at H
                have c27b0 : (a0 == 46) = false := beq_eq_false_iff_ne.mpr c27
                have c27b1 : (a0 != 46) = true := bne_iff_ne.mpr c27
                by_cases c28 : a0 = 95
                · rw [if_pos c28] at H
                  have c28b0 : (a0 == 95) = true := beq_iff_eq.mpr c28
                  have c28b1 : (a0 != 95) = false := bne_eq_false_iff_eq.mpr c28
                  clear c28
                  obtain rfl := Option.some.inj H
                  go_enter Tryz.func52, Tryz.ntmps52
                  go_wp2
                  go_ret
                  exact ⟨by first | rfl | (simp; done) | (simp [*]; done), by repeat (first | exact Drawn0.refl _ | apply Drawn0.step)⟩
                · rw [if_neg c28] at H
                  have c28b0 : (a0 == 95) = false := beq_eq_false_iff_ne.mpr c28
                  have c28b1 : (a0 != 95) = true := bne_iff_ne.mpr c28
                  obtain rfl := Option.some.inj H
                  go_enter Tryz.func52, Tryz.ntmps52
                  go_wp2
                  go_ret
                  exact ⟨by first | rfl | (simp; done) | (simp [*]; done), by repeat (first | exact Drawn0.refl _ | apply Drawn0.step)⟩
        · rw [if_neg c24] at H
          have c24b0 : decide (48 ≤ a0) = false := decide_eq_false c24
          clear c24
          by_cases c29 : a0 = 45
          · rw [if_pos c29] at H
            have c29b0 : (a0 == 45) = true := beq_iff_eq.mpr c29
            have c29b1 : (a0 != 45) = false := bne_eq_false_iff_eq.mpr c29
            clear c29
            obtain rfl := Option.some.inj H
            go_enter Tryz.func52, Tryz.ntmps52
            go_wp2
            go_ret
            exact ⟨by first | rfl | (simp; done) | (simp [*]; done), by repeat (first | exact Drawn0.refl _ | apply Drawn0.step)⟩
          · rw [if_neg c29] at H
            have c29b0 : (a0 == 45) = false := beq_eq_false_iff_ne.mpr c29
            have c29b1 : (a0 != 45) = true := bne_iff_ne.mpr c29
            by_cases c30 : a0 = 46
            · rw [if_pos c30] at H
              have c30b0 : (a0 == 46) = true := beq_iff_eq.mpr c30
              have c30b1 : (a0 != 46) = false := bne_eq_false_iff_eq.mpr c30
              clear c30
              obtain rfl := Option.some.inj H
              go_enter Tryz.func52, Tryz.ntmps52
              go_wp2
              go_ret
              exact ⟨by first | rfl | (simp; done) | (simp [*]; done), by repeat (first | exact Drawn0.refl _ | apply Drawn0.step)⟩
            · rw [if_neg c30] at H
              have c30b0 : (a0 == 46) = false := beq_eq_false_iff_ne.mpr c30
              have c30b1 : (a0 != 46) = true := bne_iff_ne.mpr c30
              by_cases c31 : a0 = 95
              · rw [if_pos c31] at H
                have c31b0 : (a0 == 95) = true := beq_iff_eq.mpr c31
                have c31b1 : (a0 != 95) = false := bne_eq_false_iff_eq.mpr c31
                clear c31
                obtain rfl := Option.some.inj H
                go_enter Tryz.func52, Tryz.ntmps52
                go_wp2
                go_ret
                exact ⟨by first | rfl | (simp; done) | (simp [*]; done), by repeat (first | exact Drawn0.refl _ | apply Drawn0.step)⟩
              · rw [if_neg c31] at H
                have c31b0 : (a0 == 95) = false := beq_eq_false_iff_ne.mpr c31
                have c31b1 : (a0 != 95) = true := bne_iff_ne.mpr c31
                obtain rfl := Option.some.inj H
                go_enter Tryz.func52, Tryz.ntmps52
                go_wp2
                go_ret
                exact ⟨by first | rfl | (simp; done) | (simp [*]; done), by repeat (first | exact Drawn0.refl _ | apply Drawn0.step)⟩
    · rw [if_neg c22] at H
      have c22b0 : decide (65 ≤ a0) = false := decide_eq_false c22
      clear c22
      by_cases c32 : a0 ≥ 48
      · rw [if_pos c32] at H
        have c32b0 : decide (48 ≤ a0) = true := decide_eq_true c32
        clear c32
        by_cases c33 : a0 ≤ 57
        · rw [if_pos c33] at H
          have c33b0 : decide (a0 ≤ 57) = true := decide_eq_true c33
          clear c33
          obtain rfl := Option.some.inj H
          go_enter Tryz.func52, Tryz.ntmps52
          go_wp2
          go_ret
          exact ⟨by first | rfl | (simp; done) | (simp [*]; done), by repeat (first | exact Drawn0.refl _ | apply Drawn0.step)⟩
        · rw [if_neg c33] at H
          have c33b0 : decide (a0 ≤ 57) = false := decide_eq_false c33
          clear c33
          by_cases c34 : a0 = 45
          · rw [if_pos c34] at H
            have c34b0 : (a0 == 45) = true := beq_iff_eq.mpr c34
            have c34b1 : (a0 != 45) = false := bne_eq_false_iff_eq.mpr c34
            clear c34
            obtain rfl := Option.some.inj H
            go_enter Tryz.func52, Tryz.ntmps52
            go_wp2
            go_ret
            exact ⟨by first | rfl | (simp; done) | (simp [*]; done), by repeat (first | exact Drawn0.refl _ | apply Drawn0.step)⟩
          · rw [if_neg c34] at H
            have c34b0 : (a0 == 45) = false := beq_eq_false_iff_ne.mpr c34
            have c34b1 : (a0 != 45) = true := bne_iff_ne.mpr c34
            by_cases c35 : a0 = 46
            · rw [if_pos c35] at H
              have c35b0 : (a0 == 46) = true := beq_iff_eq.mpr c35
              have c35b1 : (a0 != 46) = false := bne_eq_false_iff_eq.mpr c35
              clear c35
              obtain rfl := Option.some.inj H
              go_enter Tryz.func52, Tryz.ntmps52
              go_wp2
              go_ret
              exact ⟨by first | rfl | (simp; done) | (simp [*]; done), by repeat (first | exact Drawn0.refl _ | apply Drawn0.step)⟩
            · rw [if_neg c35] at H
              have c35b0 : (a0 == 46) = false := beq_eq_false_iff_ne.mpr c35
              have c35b1 : (a0 != 46) = true := bne_iff_ne.mpr c35
              by_cases c36 : a0 = 95
              · rw [if_pos c36] at H
                have c36b0 : (a0 == 95) = true := beq_iff_eq.mpr c36
                have c36b1 : (a0 != 95) = false := bne_eq_false_iff_eq.mpr c36
                clear c36
                obtain rfl := Option.some.inj H
                go_enter Tryz.func52, Tryz.ntmps52
                go_wp2
                go_ret
                exact ⟨by first | rfl | (simp; done) | (simp [*]; done), by repeat (first | exact Drawn0.refl _ | apply Drawn0.step)⟩
              · rw [if_neg c36] at H
                have c36b0 : (a0 == 95) = false := beq_eq_false_iff_ne.mpr c36
                have c36b1 : (a0 != 95) = true := bne_iff_ne.mpr c36
                obtain rfl := Option.some.inj H
                go_enter Tryz.func52, Tryz.ntmps52
                go_wp2
                go_ret
                exact ⟨by first | rfl | (simp; done) | (simp [*]; done), by repeat (first | exact Drawn0.refl _ | apply Drawn0.step)⟩
      · rw [if_neg c32] at H
        have c32b0 : decide (48 ≤ a0) = false := decide_eq_false c32
        clear c32
        by_cases c37 : a0 = 45
        · rw [if_pos c37] at H
          have c37b0 : (a0 == 45) = true := beq_iff_eq.mpr c37
          have c37b1 : (a0 != 45) = false := bne_eq_false_iff_eq.mpr c37
          clear c37
          obtain rfl := Option.some.inj H
          go_enter Tryz.func52, Tryz.ntmps52
          go_wp2
          go_ret
          exact ⟨by first | rfl | (simp; done) | (simp [*]; done), by repeat (first | exact Drawn0.refl _ | apply Drawn0.step)⟩
        · rw [if_neg c37] at H
          have c37b0 : (a0 == 45) = false := beq_eq_false_iff_ne.mpr c37
          have c37b1 : (a0 != 45) = true := bne_iff_ne.mpr c37
          by_cases c38 : a0 = 46
          · rw [if_pos c38] at H
            have c38b0 : (a0 == 46) = true := beq_iff_eq.mpr c38
            have c38b1 : (a0 != 46) = false := bne_eq_false_iff_eq.mpr c38
            clear c38
            obtain rfl := Option.some.inj H
            go_enter Tryz.func52, Tryz.ntmps52
            go_wp2
            go_ret
            exact ⟨by first | rfl | (simp; done) | (simp [*]; done), by repeat (first | exact Drawn0.refl _ | apply Drawn0.step)⟩
          · rw [if_neg c38] at H
            have c38b0 : (a0 == 46) = false := beq_eq_false_iff_ne.mpr c38
            have c38b1 : (a0 != 46) = true := bne_iff_ne.mpr c38
            by_cases c39 : a0 = 95
            · rw [if_pos c39] at H
              have c39b0 : (a0 == 95) = true := beq_iff_eq.mpr c39
              have c39b1 : (a0 != 95) = false := bne_eq_false_iff_eq.mpr c39
              clear c39
              obtain rfl := Option.some.inj H
              go_enter Tryz.func52, Tryz.ntmps52
              go_wp2
              go_ret
              exact ⟨by first | rfl | (simp; done) | (simp [*]; done), by repeat (first | exact Drawn0.refl _ | apply Drawn0.step)⟩
            · rw [if_neg c39] at H
              have c39b0 : (a0 == 95) = false := beq_eq_false_iff_ne.mpr c39
              have c39b1 : (a0 != 95) = true := bne_iff_ne.mpr c39
              obtain rfl := Option.some.inj H
              go_enter Tryz.func52, Tryz.ntmps52
              go_wp2
              go_ret
              exact ⟨by first | rfl | (simp; done) | (simp [*]; done), by repeat (first | exact Drawn0.refl _ | apply Drawn0.step)⟩

end Go.Proofs.YtclmjmfcggkpaaaGreatDoor.PX
-- printed by this session's own program over the kit's print.py; Lean checks it
namespace Go.Proofs.YtclmjmfcggkpaaaGreatDoor.PX
open Go.RowKit Go.Proofs.YtclmjmfcggkpaaaGreatDoorW.PrintWords Go.Proofs.YtclmjmfcggkpaaaGreatDoorW.PrintLast Go.Proofs.YtclmjmfcggkpaaaGreatDoorW.PrintMore
attribute [local go_sem] max2_int min2_int max_two min_two max_three min_three max_four min_four   -- for this text's walks alone
set_option linter.unusedVariables false
set_option linter.unusedSimpArgs false

/-! ### spec_bigDigit: function 58 -/
def spec_bigDigit.f (a0 : Int) : Option (Int) := if a0 < 10 then (some ((48 + a0) % 256)) else (some ((((65 + a0) % 256) - 10) % 256))
set_option maxHeartbeats 8000000 in
set_option maxRecDepth 100000 in
theorem spec_bigDigit.calls (a0 : Int) (r : Int) (w : World) (h : spec_bigDigit.f a0 = some r) :
    Calls Tryz.prog 58 #[.int .u8 a0] w fun e w' => e = .returned (.int .u8 r) ∧ Drawn0 w w' := by
  have H : (if a0 < 10 then (some ((48 + a0) % 256)) else (some ((((65 + a0) % 256) - 10) % 256))) = some r := h
  clear h
  by_cases c2 : a0 < 10
  · rw [if_pos c2] at H
    have c2b0 : decide (a0 < 10) = true := decide_eq_true c2
    clear c2
    obtain rfl := Option.some.inj H
    go_enter Tryz.func58, Tryz.ntmps58
    go_wp2
    go_ret
    exact ⟨by first | rfl | (simp; done) | (simp [*]; done), by repeat (first | exact Drawn0.refl _ | apply Drawn0.step)⟩
  · rw [if_neg c2] at H
    have c2b0 : decide (a0 < 10) = false := decide_eq_false c2
    clear c2
    obtain rfl := Option.some.inj H
    go_enter Tryz.func58, Tryz.ntmps58
    go_wp2
    go_ret
    exact ⟨by first | rfl | (simp; done) | (simp [*]; done), by repeat (first | exact Drawn0.refl _ | apply Drawn0.step)⟩

end Go.Proofs.YtclmjmfcggkpaaaGreatDoor.PX
-- printed by this session's own program over the kit's print.py; Lean checks it
namespace Go.Proofs.YtclmjmfcggkpaaaGreatDoor.PX
open Go.RowKit Go.Proofs.YtclmjmfcggkpaaaGreatDoorW.PrintWords Go.Proofs.YtclmjmfcggkpaaaGreatDoorW.PrintLast Go.Proofs.YtclmjmfcggkpaaaGreatDoorW.PrintMore
attribute [local go_sem] max2_int min2_int max_two min_two max_three min_three max_four min_four   -- for this text's walks alone
set_option linter.unusedVariables false
set_option linter.unusedSimpArgs false

/-! ### spec_Escaped: function 29 -/
mutual
def spec_Escaped.l0 : Nat → ByteArray → Bool → List Int → Int → Int → Option (ByteArray)
  | 0, _, _, _, _, _ => none
  | k + 1, x0, x1, x5, x10, x11 => if x11 < x10 then (if 0 ≤ x11 then (if x11 < (x0.size : Int) then ((spec_isUnreserved.f (bt x0 x11)).bind fun t323 => (if t323 = true then (spec_Escaped.j1 k x0 x1 x5 (bt x0 x11) x10 x11 true) else (if x1 = true then (spec_Escaped.j1 k x0 x1 x5 (bt x0 x11) x10 x11 ((bt x0 x11) == 47)) else (spec_Escaped.j1 k x0 x1 x5 (bt x0 x11) x10 x11 false)))) else (none)) else (none)) else (some (strOfNums x5))
def spec_Escaped.j1 : Nat → ByteArray → Bool → List Int → Int → Int → Int → Bool → Option (ByteArray)
  | 0, _, _, _, _, _, _, _ => none
  | k + 1, x0, x1, x5, x7, x10, x11, x25 => if x25 = true then (if x5.length < 140737488355328 then (spec_Escaped.l0 k x0 x1 (x5 ++ [x7]) x10 (wrap64 (x11 + 1))) else (none)) else ((spec_bigDigit.f (x7 / 16)).bind fun t327 => ((spec_bigDigit.f (Go.bits .and .u8 x7 15)).bind fun t328 => ((some (([37, t327, t328] : List Int) : List Int)).bind fun y329 => (if x5.length + y329.length < 140737488355328 then (spec_Escaped.l0 k x0 x1 (x5 ++ y329) x10 (wrap64 (x11 + 1))) else (none)))))
end
def spec_Escaped.f (k : Nat) (a0 : ByteArray) (a1 : Bool) : Option (ByteArray) := spec_Escaped.l0 k a0 a1 (([] : List Int)) (a0.size : Int) 0
theorem spec_Escaped.mono_l : ∀ k, (∀ y0 y1 y2 y3 y4, LeO (spec_Escaped.l0 k y0 y1 y2 y3 y4) (spec_Escaped.l0 (k + 1) y0 y1 y2 y3 y4)) ∧ (∀ y0 y1 y2 y3 y4 y5 y6, LeO (spec_Escaped.j1 k y0 y1 y2 y3 y4 y5 y6) (spec_Escaped.j1 (k + 1) y0 y1 y2 y3 y4 y5 y6))
  | 0 => ⟨fun _ _ _ _ _ r h => by simp [spec_Escaped.l0] at h, fun _ _ _ _ _ _ _ r h => by simp [spec_Escaped.j1] at h⟩
  | k + 1 => by
    obtain ⟨ih0, ih1⟩ := spec_Escaped.mono_l k
    refine ⟨?_, ?_⟩
    · intro y0 y1 y2 y3 y4
      unfold spec_Escaped.l0
      repeat' first
      | (with_reducible exact ih0 _ _ _ _ _)
      | (with_reducible exact ih1 _ _ _ _ _ _ _)
      | (with_reducible exact LeO.refl _)
      | (with_reducible exact LeO.none _)
      | (with_reducible refine LeO.ite ?_ ?_)
      | (with_reducible refine LeO.bind ?_ (fun _ => ?_))
      | exact ih0 _ _ _ _ _
      | exact ih1 _ _ _ _ _ _ _
      | exact LeO.none _
      | refine LeO.ite ?_ ?_
      | refine LeO.bind ?_ (fun _ => ?_)
    · intro y0 y1 y2 y3 y4 y5 y6
      unfold spec_Escaped.j1
      repeat' first
      | (with_reducible exact ih0 _ _ _ _ _)
      | (with_reducible exact ih1 _ _ _ _ _ _ _)
      | (with_reducible exact LeO.refl _)
      | (with_reducible exact LeO.none _)
      | (with_reducible refine LeO.ite ?_ ?_)
      | (with_reducible refine LeO.bind ?_ (fun _ => ?_))
      | exact ih0 _ _ _ _ _
      | exact ih1 _ _ _ _ _ _ _
      | exact LeO.none _
      | refine LeO.ite ?_ ?_
      | refine LeO.bind ?_ (fun _ => ?_)
theorem spec_Escaped.mono : ∀ a0 a1 k, LeO (spec_Escaped.f k a0 a1) (spec_Escaped.f (k + 1) a0 a1) := by
  intro a0 a1 k
  obtain ⟨ih0, ih1⟩ := spec_Escaped.mono_l k
  unfold spec_Escaped.f
  repeat' first
      | (with_reducible exact ih0 _ _ _ _ _)
      | (with_reducible exact ih1 _ _ _ _ _ _ _)
      | (with_reducible exact LeO.refl _)
      | (with_reducible exact LeO.none _)
      | (with_reducible refine LeO.ite ?_ ?_)
      | (with_reducible refine LeO.bind ?_ (fun _ => ?_))
      | exact ih0 _ _ _ _ _
      | exact ih1 _ _ _ _ _ _ _
      | exact LeO.none _
      | refine LeO.ite ?_ ?_
      | refine LeO.bind ?_ (fun _ => ?_)
set_option maxHeartbeats 8000000 in
set_option maxRecDepth 100000 in
theorem spec_Escaped.calls (k : Nat) (a0 : ByteArray) (a1 : Bool) (r : ByteArray) (w : World) (h : spec_Escaped.f k a0 a1 = some r) :
    Calls Tryz.prog 29 #[.string a0, .bool a1] w fun e w' => e = .returned (.string r) ∧ Below w.heap.size w w' := by
  have HB := Aside0.mk (Below.refl w.heap.size w)
  have H : (spec_Escaped.l0 k a0 a1 (([] : List Int)) (a0.size : Int) 0) = some r := h
  clear h
  obtain ⟨y320, hy320⟩ : ∃ y_ : List Int, y_ = (([] : List Int)) := ⟨_, rfl⟩
  replace H : (spec_Escaped.l0 k a0 a1 y320 (a0.size : Int) 0) = some r := by first | (rw [hy320]; with_reducible exact H) | (have H2_ := (Option.bind_some _ _).symm.trans H; rw [hy320]; with_reducible exact H2_) | (have H2_ := (Option.bind_some _ _).symm.trans H; with_reducible exact H2_) | with_reducible exact H | (rw [hy320]; exact H) | exact H
  have Ny320 := Aside0.mk hy320
  clear hy320
  have H' := Aside0.mk H
  clear H
  go_enter Tryz.func29, Tryz.ntmps29
  go_wp2_with (first | ((with_reducible refine gate_dst (N := 8) rfl ?_); refine Kd.R_lit (Kd.int .u8) _ 5 ?hg (N := 8) ?hd (xs := ([] : List Int)) (inner := []) (ok := fun _ => True) (okp := fun _ => True) ?hr ?hp (fun _ hk => hk) trivial (Below.refl _ _) (Nat.le_refl _) (by simp) ?_; (case hd => rfl); (case hg => rfl); (case hr => first | (go_simp; done) | (go_simp; rfl)); (case hp => exact (Reps.none _ _)); intro v321 w3 ho4 hb hg_ hnew_; clear hg_ hnew_; (first | rw [← Ny320.out] at ho4 | (simp only [Int.reduceToNat] at ho4; rw [← Ny320.out] at ho4)); have n0_ := Aside0.mk (Kd.R_lower ho4 (below_size (by repeat (first | (with_reducible first | exact HB.out | apply below_alloc | apply pw_below_drewN | apply below_drew1) | exact HB.out)))); have n1_ := Aside0.mk (below_step (by repeat (first | (with_reducible first | exact HB.out | apply below_alloc | apply pw_below_drewN | apply below_drew1) | exact HB.out)) hb); clear HB; have HO322 := n0_; have HB := n1_; clear n0_ n1_; clear hb ho4))
  go_loopg [5, 11] k (fun kq v5 v11 w' => ∃ (x5_1 : List Int) (x11_1 : Int), v11 = .int .i64 x11_1 ∧ Aside0 (spec_Escaped.l0 kq a0 a1 x5_1 (a0.size : Int) x11_1 = some r) ∧ Aside0 (kq ≤ k) ∧ Aside0 (Kd.R (Kd.int .u8) 5 w' w.heap.size (fun _ => True) v5 x5_1) ∧ Aside0 (Below w.heap.size w w'))
  case atStart => exact ⟨(y320), (0), (by first | rfl | (simp; done) | (simp [*]; done)), H', ⟨Nat.le_refl _⟩, ⟨by (with_reducible repeat (first | apply Kd.R_alloc | apply Kd.R_drewN | apply Kd.R_drew)); exact HO322.out⟩, ⟨by repeat (first | (with_reducible first | exact HB.out | apply below_alloc | apply pw_below_drewN | apply below_drew1) | exact HB.out)⟩⟩
  case round =>
    clear H'
    try clear c2
    try clear p2
    obtain ⟨x5_1, x11_1, rfl, HA, HK1, HO_5, HB⟩ := hrel
    cases gk with
    | zero => exact absurd HA.out (by simp [spec_Escaped.l0])
    | succ k1 =>
      have H := HA.out
      clear HA
      simp only [spec_Escaped.l0] at H
      by_cases c5 : x11_1 < (a0.size : Int)
      · rw [if_pos c5] at H
        have c5b0 : decide (x11_1 < (a0.size : Int)) = true := decide_eq_true c5
        clear c5
        by_cases c6 : 0 ≤ x11_1
        · rw [if_pos c6] at H
          have c6b0 : decide (0 ≤ x11_1) = true := decide_eq_true c6
          clear c6
          by_cases c7 : x11_1 < (a0.size : Int)
          · rw [if_pos c7] at H
            have c7b0 : decide (x11_1 < (a0.size : Int)) = true := decide_eq_true c7
            clear c7
            have HC9 := Aside0.mk H
            clear H
            have p8 : 0 ≤ (x11_1 : Int) := of_decide_eq_true (by first | (with_reducible assumption) | assumption)
            have q8 : x11_1 < (a0.size : Int) := of_decide_eq_true (by first | (with_reducible assumption) | assumption)
            have hx8 := bt_at a0 x11_1
            replace p8 := eq_true p8
            replace q8 := eq_true q8
            go_upto_region 6 with (fail)
            go_cut [25] (fun v25 wc => ∃ (kq : Nat) (x25_8 : Bool), v25 = .bool x25_8 ∧ Aside0 (spec_Escaped.j1 kq a0 a1 x5_1 (bt a0 x11_1) (a0.size : Int) x11_1 x25_8 = some r) ∧ Aside0 (kq ≤ k1) ∧ Aside0 (Kd.R (Kd.int .u8) 5 wc w.heap.size (fun _ => True) u5 x5_1) ∧ Aside0 (Below w.heap.size w wc))
            case first =>
              have H := HC9.out
              clear HC9
              replace H := Option.bind_eq_some_iff.mp H
              obtain ⟨t323, A100, H⟩ := H
              replace H : (if t323 = true then (spec_Escaped.j1 k1 a0 a1 x5_1 (bt a0 x11_1) (a0.size : Int) x11_1 true) else (if a1 = true then (spec_Escaped.j1 k1 a0 a1 x5_1 (bt a0 x11_1) (a0.size : Int) x11_1 ((bt a0 x11_1) == 47)) else (spec_Escaped.j1 k1 a0 a1 x5_1 (bt a0 x11_1) (a0.size : Int) x11_1 false))) = some r := H
              have A10 := Aside0.mk A100
              clear A100
              by_cases c11 : t323 = true
              · subst c11
                have H1 : (spec_Escaped.j1 k1 a0 a1 x5_1 (bt a0 x11_1) (a0.size : Int) x11_1 true) = some r := by rw [if_pos rfl] at H; exact H
                clear H
                have H := H1
                clear H1
                have H' := Aside0.mk H
                clear H
                go_wp2_with (first | ((with_reducible refine gate_callee (f := 52) rfl ?_); refine goesL_ (some 18) rfl rfl Tryz.func52 (by kernel_rfl) rfl #[.int .u8 (bt a0 x11_1)] rfl (by (try simp only [List.map_toArray, List.map_cons, List.map_nil]); first | done | rfl | (simp only [List.length_drop, List.length_take]; rfl)) ?_; (with_reducible refine (spec_isUnreserved.calls (bt a0 x11_1) true _ A10.out).mono ?_); rintro e w' ⟨rfl, ⟨nd, rfl⟩⟩; refine ⟨_, rfl, ?_⟩))
                go_meet
                case rel => exact ⟨_, (true), (by first | rfl | (simp; done) | (simp [*]; done)), H', ⟨by have := HK1.out; first | omega | exact Nat.le_refl _⟩, ⟨by (with_reducible repeat (first | apply Kd.R_alloc | apply Kd.R_drewN | apply Kd.R_drew)); exact HO_5.out⟩, ⟨by repeat (first | (with_reducible first | exact HB.out | apply below_alloc | apply pw_below_drewN | apply below_drew1) | exact HB.out)⟩⟩
              · replace c11 := Bool.eq_false_iff.mpr c11
                subst c11
                have H1 : (if a1 = true then (spec_Escaped.j1 k1 a0 a1 x5_1 (bt a0 x11_1) (a0.size : Int) x11_1 ((bt a0 x11_1) == 47)) else (spec_Escaped.j1 k1 a0 a1 x5_1 (bt a0 x11_1) (a0.size : Int) x11_1 false)) = some r := by rw [if_neg (show ¬ (false = true) by decide)] at H; exact H
                clear H
                have H := H1
                clear H1
                by_cases c12 : a1 = true
                · subst c12
                  have H1 : (spec_Escaped.j1 k1 a0 true x5_1 (bt a0 x11_1) (a0.size : Int) x11_1 ((bt a0 x11_1) == 47)) = some r := by rw [if_pos rfl] at H; exact H
                  clear H
                  have H := H1
                  clear H1
                  have H' := Aside0.mk H
                  clear H
                  go_wp2_with (first | ((with_reducible refine gate_callee (f := 52) rfl ?_); refine goesL_ (some 18) rfl rfl Tryz.func52 (by kernel_rfl) rfl #[.int .u8 (bt a0 x11_1)] rfl (by (try simp only [List.map_toArray, List.map_cons, List.map_nil]); first | done | rfl | (simp only [List.length_drop, List.length_take]; rfl)) ?_; (with_reducible refine (spec_isUnreserved.calls (bt a0 x11_1) false _ A10.out).mono ?_); rintro e w' ⟨rfl, ⟨nd, rfl⟩⟩; refine ⟨_, rfl, ?_⟩))
                  go_meet
                  case rel => exact ⟨_, (((bt a0 x11_1) == 47)), (by first | rfl | (simp; done) | (simp [*]; done)), H', ⟨by have := HK1.out; first | omega | exact Nat.le_refl _⟩, ⟨by (with_reducible repeat (first | apply Kd.R_alloc | apply Kd.R_drewN | apply Kd.R_drew)); exact HO_5.out⟩, ⟨by repeat (first | (with_reducible first | exact HB.out | apply below_alloc | apply pw_below_drewN | apply below_drew1) | exact HB.out)⟩⟩
                · replace c12 := Bool.eq_false_iff.mpr c12
                  subst c12
                  have H1 : (spec_Escaped.j1 k1 a0 false x5_1 (bt a0 x11_1) (a0.size : Int) x11_1 false) = some r := by rw [if_neg (show ¬ (false = true) by decide)] at H; exact H
                  clear H
                  have H := H1
                  clear H1
                  have H' := Aside0.mk H
                  clear H
                  go_wp2_with (first | ((with_reducible refine gate_callee (f := 52) rfl ?_); refine goesL_ (some 18) rfl rfl Tryz.func52 (by kernel_rfl) rfl #[.int .u8 (bt a0 x11_1)] rfl (by (try simp only [List.map_toArray, List.map_cons, List.map_nil]); first | done | rfl | (simp only [List.length_drop, List.length_take]; rfl)) ?_; (with_reducible refine (spec_isUnreserved.calls (bt a0 x11_1) false _ A10.out).mono ?_); rintro e w' ⟨rfl, ⟨nd, rfl⟩⟩; refine ⟨_, rfl, ?_⟩))
                  go_meet
                  case rel => exact ⟨_, (false), (by first | rfl | (simp; done) | (simp [*]; done)), H', ⟨by have := HK1.out; first | omega | exact Nat.le_refl _⟩, ⟨by (with_reducible repeat (first | apply Kd.R_alloc | apply Kd.R_drewN | apply Kd.R_drew)); exact HO_5.out⟩, ⟨by repeat (first | (with_reducible first | exact HB.out | apply below_alloc | apply pw_below_drewN | apply below_drew1) | exact HB.out)⟩⟩
            case rest =>
              clear HC9
              try clear c1
              try clear c2
              try clear p2
              try clear c5
              try clear c5b0
              try clear c6
              try clear c6b0
              try clear c7
              try clear c7b0
              try clear p8
              try clear q8
              try clear hx8
              try clear c11
              try clear c12
              try clear p2
              try clear p8
              try clear q8
              obtain ⟨kq, x25_8, rfl, HA, HJ8, HO_5, HB⟩ := hcut
              cases kq with
              | zero => exact absurd HA.out (by simp [spec_Escaped.j1])
              | succ kj8 =>
                have H := HA.out
                clear HA
                simp only [spec_Escaped.j1] at H
                by_cases c13 : x25_8 = true
                · subst c13
                  have H1 : (if x5_1.length < 140737488355328 then (spec_Escaped.l0 kj8 a0 a1 (x5_1 ++ [(bt a0 x11_1)]) (a0.size : Int) (wrap64 (x11_1 + 1))) else (none)) = some r := by rw [if_pos rfl] at H; exact H
                  clear H
                  have H := H1
                  clear H1
                  by_cases c14 : x5_1.length < 140737488355328
                  · rw [if_pos c14] at H
                    have LMc14 := Aside0.mk c14
                    clear c14
                    obtain ⟨y324, hy324⟩ : ∃ y_ : List Int, y_ = (x5_1 ++ [(bt a0 x11_1)]) := ⟨_, rfl⟩
                    replace H : (spec_Escaped.l0 kj8 a0 a1 y324 (a0.size : Int) (wrap64 (x11_1 + 1))) = some r := by first | (rw [hy324]; with_reducible exact H) | (have H2_ := (Option.bind_some _ _).symm.trans H; rw [hy324]; with_reducible exact H2_) | (have H2_ := (Option.bind_some _ _).symm.trans H; with_reducible exact H2_) | with_reducible exact H | (rw [hy324]; exact H) | exact H
                    have Ny324 := Aside0.mk hy324
                    clear hy324
                    have H' := Aside0.mk H
                    clear H
                    go_wp2_with (first | ((with_reducible refine gate_builtin (b := .append) (xs := #[.tmp 26, .tmp 28]) rfl ?_); at_builtin; refine Kd.R_append (Kd.int .u8) (w0 := w) w.heap.size rfl (.tmp 26) (.tmp 28) 104 5 (.int .u8 0) 1 rfl Tryz.underlying104 info5 rfl (by decide) (by omega) u5 x5_1 (bt a0 x11_1) [.int .u8 (bt a0 x11_1)] (fun _ => True) (fun _ => False) rfl rfl ?aP (fun _ hk => hk.elim) ?aF ?aO ?aB ?aS ?aL ?_; (case aP => exact rfl); (case aB => exact (by repeat (first | (with_reducible first | exact HB.out | apply below_alloc | apply pw_below_drewN | apply below_drew1) | exact HB.out))); (case aF => exact (fun _ _ => trivial)); (case aO => exact (by (with_reducible repeat (first | apply Kd.R_alloc | apply Kd.R_drewN | apply Kd.R_drew)); exact HO_5.out)); (case aS => exact (below_size (by repeat (first | (with_reducible first | exact HB.out | apply below_alloc | apply pw_below_drewN | apply below_drew1) | exact HB.out)))); (case aL => have := LMc14.out; omega); intro v325 w15 ho hb hg hat; rw [← Ny324.out] at ho; have n0_ := Aside0.mk (hb); have n1_ := Aside0.mk (ho); clear HB; clear HO_5; have HB := n0_; have HO326 := n1_; clear n0_ n1_; clear ho hb hg hat))
                    go_roundg kj8
                    case measure => have := HK1.out; have := HJ8.out; omega
                    case rel => exact ⟨(y324), (wrap64 (x11_1 + 1)), (by first | rfl | (simp; done) | (simp [*]; done)), H', ⟨by have := HK1.out; have := HJ8.out; omega⟩, ⟨by (with_reducible repeat (first | apply Kd.R_alloc | apply Kd.R_drewN | apply Kd.R_drew)); exact HO326.out⟩, ⟨by repeat (first | (with_reducible first | exact HB.out | apply below_alloc | apply pw_below_drewN | apply below_drew1) | exact HB.out)⟩⟩
                  · rw [if_neg c14] at H
                    exact absurd H (by simp)
                · replace c13 := Bool.eq_false_iff.mpr c13
                  subst c13
                  have H1 : ((spec_bigDigit.f ((bt a0 x11_1) / 16)).bind fun t327 => ((spec_bigDigit.f (Go.bits .and .u8 (bt a0 x11_1) 15)).bind fun t328 => ((some (([37, t327, t328] : List Int) : List Int)).bind fun y329 => (if x5_1.length + y329.length < 140737488355328 then (spec_Escaped.l0 kj8 a0 a1 (x5_1 ++ y329) (a0.size : Int) (wrap64 (x11_1 + 1))) else (none))))) = some r := by rw [if_neg (show ¬ (false = true) by decide)] at H; exact H
                  clear H
                  have H := H1
                  clear H1
                  replace H := Option.bind_eq_some_iff.mp H
                  obtain ⟨t327, A160, H⟩ := H
                  replace H : ((spec_bigDigit.f (Go.bits .and .u8 (bt a0 x11_1) 15)).bind fun t328 => ((some (([37, t327, t328] : List Int) : List Int)).bind fun y329 => (if x5_1.length + y329.length < 140737488355328 then (spec_Escaped.l0 kj8 a0 a1 (x5_1 ++ y329) (a0.size : Int) (wrap64 (x11_1 + 1))) else (none)))) = some r := H
                  have A16 := Aside0.mk A160
                  clear A160
                  replace H := Option.bind_eq_some_iff.mp H
                  obtain ⟨t328, A170, H⟩ := H
                  replace H : ((some (([37, t327, t328] : List Int) : List Int)).bind fun y329 => (if x5_1.length + y329.length < 140737488355328 then (spec_Escaped.l0 kj8 a0 a1 (x5_1 ++ y329) (a0.size : Int) (wrap64 (x11_1 + 1))) else (none))) = some r := H
                  have A17 := Aside0.mk A170
                  clear A170
                  obtain ⟨y329, hy329⟩ : ∃ y_ : List Int, y_ = (([37, t327, t328] : List Int)) := ⟨_, rfl⟩
                  replace H : (if x5_1.length + y329.length < 140737488355328 then (spec_Escaped.l0 kj8 a0 a1 (x5_1 ++ y329) (a0.size : Int) (wrap64 (x11_1 + 1))) else (none)) = some r := by first | (rw [hy329]; with_reducible exact H) | (have H2_ := (Option.bind_some _ _).symm.trans H; rw [hy329]; with_reducible exact H2_) | (have H2_ := (Option.bind_some _ _).symm.trans H; with_reducible exact H2_) | with_reducible exact H | (rw [hy329]; exact H) | exact H
                  have Ny329 := Aside0.mk hy329
                  clear hy329
                  by_cases c18 : x5_1.length + y329.length < 140737488355328
                  · rw [if_pos c18] at H
                    have LMc18 := Aside0.mk c18
                    clear c18
                    obtain ⟨y332, hy332⟩ : ∃ y_ : List Int, y_ = (x5_1 ++ y329) := ⟨_, rfl⟩
                    replace H : (spec_Escaped.l0 kj8 a0 a1 y332 (a0.size : Int) (wrap64 (x11_1 + 1))) = some r := by first | (rw [hy332]; with_reducible exact H) | (have H2_ := (Option.bind_some _ _).symm.trans H; rw [hy332]; with_reducible exact H2_) | (have H2_ := (Option.bind_some _ _).symm.trans H; with_reducible exact H2_) | with_reducible exact H | (rw [hy332]; exact H) | exact H
                    have Ny332 := Aside0.mk hy332
                    clear hy332
                    have H' := Aside0.mk H
                    clear H
                    go_wp2_with (first | ((with_reducible refine gate_callee (f := 58) rfl ?_); refine goesL_ (some 33) rfl rfl Tryz.func58 (by kernel_rfl) rfl #[.int .u8 ((bt a0 x11_1) / 16)] rfl (by (try simp only [List.map_toArray, List.map_cons, List.map_nil]); first | done | rfl | (simp only [List.length_drop, List.length_take]; rfl)) ?_; (with_reducible refine (spec_bigDigit.calls ((bt a0 x11_1) / 16) t327 _ A16.out).mono ?_); rintro e w' ⟨rfl, ⟨nd, rfl⟩⟩; refine ⟨_, rfl, ?_⟩) | ((with_reducible refine gate_callee (f := 58) rfl ?_); refine goesL_ (some 36) rfl rfl Tryz.func58 (by kernel_rfl) rfl #[.int .u8 (Go.bits .and .u8 (bt a0 x11_1) 15)] rfl (by (try simp only [List.map_toArray, List.map_cons, List.map_nil]); first | done | rfl | (simp only [List.length_drop, List.length_take]; rfl)) ?_; (with_reducible refine (spec_bigDigit.calls (Go.bits .and .u8 (bt a0 x11_1) 15) t328 _ A17.out).mono ?_); rintro e w' ⟨rfl, ⟨nd, rfl⟩⟩; refine ⟨_, rfl, ?_⟩) | ((with_reducible refine gate_dst (N := 37) rfl ?_); refine Kd.R_lit (Kd.int .u8) _ 5 ?hg (N := 37) ?hd (xs := ([37, t327, t328] : List Int)) (inner := [.int .u8 37, .int .u8 t327, .int .u8 t328]) (ok := fun _ => True) (okp := fun _ => True) ?hr ?hp (fun _ hk => hk) trivial (Below.refl _ _) (Nat.le_refl _) (by simp) ?_; (case hd => rfl); (case hg => rfl); (case hr => first | (go_simp; done) | (go_simp; rfl)); (case hp => exact (Reps.one (show Kd.M (Kd.int .u8) _ _ _ 37 [.int .u8 37] from rfl) (Reps.one (show Kd.M (Kd.int .u8) _ _ _ t327 [.int .u8 t327] from rfl) (Reps.one (show Kd.M (Kd.int .u8) _ _ _ t328 [.int .u8 t328] from rfl) (Reps.none _ _))))); intro v330 w19 ho20 hb hg_ hnew_; clear hg_ hnew_; (first | rw [← Ny329.out] at ho20 | (simp only [Int.reduceToNat] at ho20; rw [← Ny329.out] at ho20)); have n0_ := Aside0.mk (Kd.R_elder' (by (with_reducible repeat (first | apply Kd.R_alloc | apply Kd.R_drewN | apply Kd.R_drew)); exact HO_5.out) (Kd.R_base ho20) hb); have n1_ := Aside0.mk (Kd.R_lower (Kd.R_new' ho20 (Kd.R_lt (by (with_reducible repeat (first | apply Kd.R_alloc | apply Kd.R_drewN | apply Kd.R_drew)); exact HO_5.out))) (below_size (by repeat (first | (with_reducible first | exact HB.out | apply below_alloc | apply pw_below_drewN | apply below_drew1) | exact HB.out)))); have n2_ := Aside0.mk (below_step (by repeat (first | (with_reducible first | exact HB.out | apply below_alloc | apply pw_below_drewN | apply below_drew1) | exact HB.out)) hb); clear HO_5; clear HB; have HO_5 := n0_; have HO331 := n1_; have HB := n2_; clear n0_ n1_ n2_; clear hb ho20; obtain ⟨Ao22, co22, eo22⟩ := Kd.R_slice HO331.out; subst eo22) | ((with_reducible refine gate_builtin (b := .append) (xs := #[.tmp 30, .tmp 37]) rfl ?_); at_builtin; refine Kd.R_append_rows (Kd.int .u8) (w0 := w) w.heap.size rfl (.tmp 30) (.tmp 37) 104 5 (.int .u8 0) 1 rfl Tryz.underlying104 info5 rfl (by decide) (by omega) u5 x5_1 y329 _ _ _ (fun k_ => some k_ ≠ (.slice Ao22 y329.length co22 : Value).ownBlock) (fun _ => False) rfl rfl ?aO ?aR (fun _ _ h => h) (fun _ h => h.elim) ?aF ?aB ?aS ?aL ?_; (case aR => repeat (first | exact (Kd.R_reads' HO331.out).2.2 | (with_reducible refine Kd.C_alloc ?_ _) | (with_reducible refine Kd.C_drewN ?_ _) | (with_reducible refine Kd.C_drew ?_))); (case aB => exact (by repeat (first | (with_reducible first | exact HB.out | apply below_alloc | apply pw_below_drewN | apply below_drew1) | exact HB.out))); (case aF => exact (fun k_ hk => Kd.fresh' (Kd.R_lt (by (with_reducible repeat (first | apply Kd.R_alloc | apply Kd.R_drewN | apply Kd.R_drew)); exact HO331.out)) k_ hk)); (case aO => exact (by (with_reducible repeat (first | apply Kd.R_alloc | apply Kd.R_drewN | apply Kd.R_drew)); exact Kd.R_mono HO_5.out (fun _ hk => hk.2))); (case aS => exact (below_size (by repeat (first | (with_reducible first | exact HB.out | apply below_alloc | apply pw_below_drewN | apply below_drew1) | exact HB.out)))); (case aL => have := LMc18.out; omega); intro v333 w21 ho hb hg hat; rw [← Ny332.out] at ho; have n0_ := Aside0.mk (Kd.R_after (ok := (fun _ => True)) (by (with_reducible repeat (first | apply Kd.R_alloc | apply Kd.R_drewN | apply Kd.R_drew)); exact HO331.out) hg hat); have n1_ := Aside0.mk (hb); have n2_ := Aside0.mk (ho); clear HO331; clear HB; clear HO_5; have HO331 := n0_; have HB := n1_; have HO334 := n2_; clear n0_ n1_ n2_; clear ho hb hg hat))
                    go_roundg kj8
                    case measure => have := HK1.out; have := HJ8.out; omega
                    case rel => exact ⟨(y332), (wrap64 (x11_1 + 1)), (by first | rfl | (simp; done) | (simp [*]; done)), H', ⟨by have := HK1.out; have := HJ8.out; omega⟩, ⟨by (with_reducible repeat (first | apply Kd.R_alloc | apply Kd.R_drewN | apply Kd.R_drew)); exact Kd.R_mono HO334.out (fun _ hk => trivial)⟩, ⟨by repeat (first | (with_reducible first | exact HB.out | apply below_alloc | apply pw_below_drewN | apply below_drew1) | exact HB.out)⟩⟩
                  · rw [if_neg c18] at H
                    exact absurd H (by simp)
          · rw [if_neg c7] at H
            exact absurd H (by simp)
        · rw [if_neg c6] at H
          exact absurd H (by simp)
      · rw [if_neg c5] at H
        have c5b0 : decide (x11_1 < (a0.size : Int)) = false := decide_eq_false c5
        clear c5
        obtain rfl := Option.some.inj H
        have hcv23 := own_string (P := Tryz.prog) Tryz.underlying104 Tryz.underlying5 Tryz.underlying9 (Kd.own_of_R HO_5.out)
        go_wp2
        go_ret
        exact ⟨by first | rfl | (simp [errW_none, errW_some] <;> rfl) | (simp [*, errW_none, errW_some] <;> rfl), by repeat (first | (with_reducible first | exact HB.out | apply below_alloc | apply pw_below_drewN | apply below_drew1) | exact HB.out)⟩

end Go.Proofs.YtclmjmfcggkpaaaGreatDoor.PX
