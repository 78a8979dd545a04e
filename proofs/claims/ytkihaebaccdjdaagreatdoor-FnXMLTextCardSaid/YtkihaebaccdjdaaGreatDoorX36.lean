import Derived.Test.YtkihaebaccdjdaaGreatDoorX5
namespace Go.Proofs.YtkihaebaccdjdaaGreatDoor.PX
open Go.RowKit Go.Proofs.YtkihaebaccdjdaaGreatDoorW.PrintWords Go.Proofs.YtkihaebaccdjdaaGreatDoorW.PrintLast Go.Proofs.YtkihaebaccdjdaaGreatDoorW.PrintMore
attribute [local go_sem] max2_int min2_int max_two min_two max_three min_three max_four min_four   -- for this text's walks alone
set_option linter.unusedVariables false
set_option linter.unusedSimpArgs false

/-! ### spec_isWord: function 24 -/
def spec_isWord.l0 : Nat → ByteArray → Int → Int → Option (Bool)
 | 0, _, _, _ => none
 | k + 1, x0, x7, x8 => if x8 < x7 then (if 0 ≤ x8 then (if x8 < (x0.size : Int) then (if (bt x0 x8) ≥ 97 then (if (bt x0 x8) ≤ 122 then (spec_isWord.l0 k x0 x7 (wrap64 (x8 + 1))) else (if (bt x0 x8) ≥ 65 then (if ((bt x0 x8) ≤ 90) then (spec_isWord.l0 k x0 x7 (wrap64 (x8 + 1))) else (if x8 = 0 then (some false) else (if (bt x0 x8) < 48 then (some false) else (if (bt x0 x8) > 57 then (some false) else (spec_isWord.l0 k x0 x7 (wrap64 (x8 + 1))))))) else (if x8 = 0 then (some false) else (if (bt x0 x8) < 48 then (some false) else (if (bt x0 x8) > 57 then (some false) else (spec_isWord.l0 k x0 x7 (wrap64 (x8 + 1)))))))) else (if (bt x0 x8) ≥ 65 then (if ((bt x0 x8) ≤ 90) then (spec_isWord.l0 k x0 x7 (wrap64 (x8 + 1))) else (if x8 = 0 then (some false) else (if (bt x0 x8) < 48 then (some false) else (if (bt x0 x8) > 57 then (some false) else (spec_isWord.l0 k x0 x7 (wrap64 (x8 + 1))))))) else (if x8 = 0 then (some false) else (if (bt x0 x8) < 48 then (some false) else (if (bt x0 x8) > 57 then (some false) else (spec_isWord.l0 k x0 x7 (wrap64 (x8 + 1)))))))) else (none)) else (none)) else (if x0.toList = ([] : List UInt8) then (some false) else (some (decide ((x0.size : Int) ≤ 50))))
def spec_isWord.f (k : Nat) (a0 : ByteArray) : Option (Bool) := spec_isWord.l0 k a0 (a0.size : Int) 0
set_option maxHeartbeats 8000000 in
set_option maxRecDepth 100000 in
theorem spec_isWord.calls (k : Nat) (a0 : ByteArray) (r : Bool) (w : World) (h : spec_isWord.f k a0 = some r) :
 Calls Tryz.prog 24 #[.string a0] w fun e w' => e = .returned (.bool r) ∧ Drawn0 w w' := by
 have H : (spec_isWord.l0 k a0 (a0.size : Int) 0) = some r := h
 clear h
 have H' := Aside0.mk H
 clear H
 go_enter Tryz.func24, Tryz.ntmps24
 go_wp2
 go_loopg [8] k (fun kq v8 w' => ∃ (x8_1 : Int), v8 = .int .i64 x8_1 ∧ Aside0 (spec_isWord.l0 kq a0 (a0.size : Int) x8_1 = some r) ∧ Aside0 (kq ≤ k) ∧ Drawn0 w w')
 case atStart => exact ⟨(0), (by first | rfl | (simp; done) | (simp [*]; done)), H', ⟨Nat.le_refl _⟩, by repeat (first | exact Drawn0.refl _ | apply Drawn0.step)⟩
 case round =>
  clear H'
  obtain ⟨x8_1, rfl, HA, HK1, ⟨m1, rfl⟩⟩ := hrel
  cases gk with
  | zero => exact absurd HA.out (by simp [spec_isWord.l0])
  | succ k1 =>
    have H := HA.out
    clear HA
    simp only [spec_isWord.l0] at H
    by_cases c2 : x8_1 < (a0.size : Int)
    ·rw [if_pos c2] at H
     have c2b0 : decide (x8_1 < (a0.size : Int)) = true := decide_eq_true c2
     clear c2
     by_cases c3 : 0 ≤ x8_1
     ·rw [if_pos c3] at H
      have c3b0 : decide (0 ≤ x8_1) = true := decide_eq_true c3
      clear c3
      by_cases c4 : x8_1 < (a0.size : Int)
      ·rw [if_pos c4] at H
       have c4b0 : decide (x8_1 < (a0.size : Int)) = true := decide_eq_true c4
       clear c4
       by_cases c6 : (bt a0 x8_1) ≥ 97
       ·rw [if_pos c6] at H
        have c6b0 : decide (97 ≤ (bt a0 x8_1)) = true := decide_eq_true c6
        clear c6
        by_cases c7 : (bt a0 x8_1) ≤ 122
        ·rw [if_pos c7] at H
         have c7b0 : decide ((bt a0 x8_1) ≤ 122) = true := decide_eq_true c7
         clear c7
         have H' := Aside0.mk H
         clear H
         have p5 : 0 ≤ (x8_1 : Int) := of_decide_eq_true (by first | (with_reducible assumption) | assumption)
         have q5 : x8_1 < (a0.size : Int) := of_decide_eq_true (by first | (with_reducible assumption) | assumption)
         have hx5 := bt_at a0 x8_1
         replace p5 := eq_true p5
         replace q5 := eq_true q5
         go_wp2
         go_roundg k1
         case measure => have := HK1.out; omega
         case rel => exact ⟨(wrap64 (x8_1 + 1)), (by first | rfl | (simp; done) | (simp [*]; done)), H', ⟨by have := HK1.out; omega⟩, by repeat (first | exact Drawn0.refl _ | apply Drawn0.step)⟩
        ·rw [if_neg c7] at H
         have c7b0 : decide ((bt a0 x8_1) ≤ 122) = false := decide_eq_false c7
         clear c7
         by_cases c8 : (bt a0 x8_1) ≥ 65
         ·rw [if_pos c8] at H
          have c8b0 : decide (65 ≤ (bt a0 x8_1)) = true := decide_eq_true c8
          clear c8
          by_cases c9 : ((bt a0 x8_1) ≤ 90)
          ·rw [if_pos c9] at H
           have c9b0 : decide ((bt a0 x8_1) ≤ 90) = true := decide_eq_true c9
           clear c9
           have H' := Aside0.mk H
           clear H
           have p5 : 0 ≤ (x8_1 : Int) := of_decide_eq_true (by first | (with_reducible assumption) | assumption)
           have q5 : x8_1 < (a0.size : Int) := of_decide_eq_true (by first | (with_reducible assumption) | assumption)
           have hx5 := bt_at a0 x8_1
           replace p5 := eq_true p5
           replace q5 := eq_true q5
           go_wp2
           go_roundg k1
           case measure => have := HK1.out; omega
           case rel => exact ⟨(wrap64 (x8_1 + 1)), (by first | rfl | (simp; done) | (simp [*]; done)), H', ⟨by have := HK1.out; omega⟩, by repeat (first | exact Drawn0.refl _ | apply Drawn0.step)⟩
          ·rw [if_neg c9] at H
           have c9b0 : decide ((bt a0 x8_1) ≤ 90) = false := decide_eq_false c9
           clear c9
           by_cases c10 : x8_1 = 0
           ·rw [if_pos c10] at H
            have c10b0 : (x8_1 == 0) = true := beq_iff_eq.mpr c10
            have c10b1 : (x8_1 != 0) = false := bne_eq_false_iff_eq.mpr c10
            clear c10
            obtain rfl := Option.some.inj H
            have p5 : 0 ≤ (x8_1 : Int) := of_decide_eq_true (by first | (with_reducible assumption) | assumption)
            have q5 : x8_1 < (a0.size : Int) := of_decide_eq_true (by first | (with_reducible assumption) | assumption)
            have hx5 := bt_at a0 x8_1
            replace p5 := eq_true p5
            replace q5 := eq_true q5
            go_wp2
            go_ret
            exact ⟨by first | rfl | (simp; done) | (simp [*]; done), by repeat (first | exact Drawn0.refl _ | apply Drawn0.step)⟩
           ·rw [if_neg c10] at H
            have c10b0 : (x8_1 == 0) = false := beq_eq_false_iff_ne.mpr c10
            have c10b1 : (x8_1 != 0) = true := bne_iff_ne.mpr c10
            by_cases c11 : (bt a0 x8_1) < 48
            ·rw [if_pos c11] at H
             have c11b0 : decide ((bt a0 x8_1) < 48) = true := decide_eq_true c11
             clear c11
             obtain rfl := Option.some.inj H
             have p5 : 0 ≤ (x8_1 : Int) := of_decide_eq_true (by first | (with_reducible assumption) | assumption)
             have q5 : x8_1 < (a0.size : Int) := of_decide_eq_true (by first | (with_reducible assumption) | assumption)
             have hx5 := bt_at a0 x8_1
             replace p5 := eq_true p5
             replace q5 := eq_true q5
             go_wp2
             go_ret
             exact ⟨by first | rfl | (simp; done) | (simp [*]; done), by repeat (first | exact Drawn0.refl _ | apply Drawn0.step)⟩
            ·rw [if_neg c11] at H
             have c11b0 : decide ((bt a0 x8_1) < 48) = false := decide_eq_false c11
             clear c11
             by_cases c12 : (bt a0 x8_1) > 57
             ·rw [if_pos c12] at H
              have c12b0 : decide (57 < (bt a0 x8_1)) = true := decide_eq_true c12
              clear c12
              obtain rfl := Option.some.inj H
              have p5 : 0 ≤ (x8_1 : Int) := of_decide_eq_true (by first | (with_reducible assumption) | assumption)
              have q5 : x8_1 < (a0.size : Int) := of_decide_eq_true (by first | (with_reducible assumption) | assumption)
              have hx5 := bt_at a0 x8_1
              replace p5 := eq_true p5
              replace q5 := eq_true q5
              go_wp2
              go_ret
              exact ⟨by first | rfl | (simp; done) | (simp [*]; done), by repeat (first | exact Drawn0.refl _ | apply Drawn0.step)⟩
             ·rw [if_neg c12] at H
              have c12b0 : decide (57 < (bt a0 x8_1)) = false := decide_eq_false c12
              clear c12
              have H' := Aside0.mk H
              clear H
              have p5 : 0 ≤ (x8_1 : Int) := of_decide_eq_true (by first | (with_reducible assumption) | assumption)
              have q5 : x8_1 < (a0.size : Int) := of_decide_eq_true (by first | (with_reducible assumption) | assumption)
              have hx5 := bt_at a0 x8_1
              replace p5 := eq_true p5
              replace q5 := eq_true q5
              go_wp2
              go_roundg k1
              case measure => have := HK1.out; omega
              case rel => exact ⟨(wrap64 (x8_1 + 1)), (by first | rfl | (simp; done) | (simp [*]; done)), H', ⟨by have := HK1.out; omega⟩, by repeat (first | exact Drawn0.refl _ | apply Drawn0.step)⟩
         ·rw [if_neg c8] at H
          have c8b0 : decide (65 ≤ (bt a0 x8_1)) = false := decide_eq_false c8
          clear c8
          by_cases c13 : x8_1 = 0
          ·rw [if_pos c13] at H
           have c13b0 : (x8_1 == 0) = true := beq_iff_eq.mpr c13
           have c13b1 : (x8_1 != 0) = false := bne_eq_false_iff_eq.mpr c13
           clear c13
           obtain rfl := Option.some.inj H
           have p5 : 0 ≤ (x8_1 : Int) := of_decide_eq_true (by first | (with_reducible assumption) | assumption)
           have q5 : x8_1 < (a0.size : Int) := of_decide_eq_true (by first | (with_reducible assumption) | assumption)
           have hx5 := bt_at a0 x8_1
           replace p5 := eq_true p5
           replace q5 := eq_true q5
           go_wp2
           go_ret
           exact ⟨by first | rfl | (simp; done) | (simp [*]; done), by repeat (first | exact Drawn0.refl _ | apply Drawn0.step)⟩
          ·rw [if_neg c13] at H
           have c13b0 : (x8_1 == 0) = false := beq_eq_false_iff_ne.mpr c13
           have c13b1 : (x8_1 != 0) = true := bne_iff_ne.mpr c13
           by_cases c14 : (bt a0 x8_1) < 48
           ·rw [if_pos c14] at H
            have c14b0 : decide ((bt a0 x8_1) < 48) = true := decide_eq_true c14
            clear c14
            obtain rfl := Option.some.inj H
            have p5 : 0 ≤ (x8_1 : Int) := of_decide_eq_true (by first | (with_reducible assumption) | assumption)
            have q5 : x8_1 < (a0.size : Int) := of_decide_eq_true (by first | (with_reducible assumption) | assumption)
            have hx5 := bt_at a0 x8_1
            replace p5 := eq_true p5
            replace q5 := eq_true q5
            go_wp2
            go_ret
            exact ⟨by first | rfl | (simp; done) | (simp [*]; done), by repeat (first | exact Drawn0.refl _ | apply Drawn0.step)⟩
           ·rw [if_neg c14] at H
            have c14b0 : decide ((bt a0 x8_1) < 48) = false := decide_eq_false c14
            clear c14
            by_cases c15 : (bt a0 x8_1) > 57
            ·rw [if_pos c15] at H
             have c15b0 : decide (57 < (bt a0 x8_1)) = true := decide_eq_true c15
             clear c15
             obtain rfl := Option.some.inj H
             have p5 : 0 ≤ (x8_1 : Int) := of_decide_eq_true (by first | (with_reducible assumption) | assumption)
             have q5 : x8_1 < (a0.size : Int) := of_decide_eq_true (by first | (with_reducible assumption) | assumption)
             have hx5 := bt_at a0 x8_1
             replace p5 := eq_true p5
             replace q5 := eq_true q5
             go_wp2
             go_ret
             exact ⟨by first | rfl | (simp; done) | (simp [*]; done), by repeat (first | exact Drawn0.refl _ | apply Drawn0.step)⟩
            ·rw [if_neg c15] at H
             have c15b0 : decide (57 < (bt a0 x8_1)) = false := decide_eq_false c15
             clear c15
             have H' := Aside0.mk H
             clear H
             have p5 : 0 ≤ (x8_1 : Int) := of_decide_eq_true (by first | (with_reducible assumption) | assumption)
             have q5 : x8_1 < (a0.size : Int) := of_decide_eq_true (by first | (with_reducible assumption) | assumption)
             have hx5 := bt_at a0 x8_1
             replace p5 := eq_true p5
             replace q5 := eq_true q5
             go_wp2
             go_roundg k1
             case measure => have := HK1.out; omega
             case rel => exact ⟨(wrap64 (x8_1 + 1)), (by first | rfl | (simp; done) | (simp [*]; done)), H', ⟨by have := HK1.out; omega⟩, by repeat (first | exact Drawn0.refl _ | apply Drawn0.step)⟩
       ·rw [if_neg c6] at H
        have c6b0 : decide (97 ≤ (bt a0 x8_1)) = false := decide_eq_false c6
        clear c6
        by_cases c16 : (bt a0 x8_1) ≥ 65
        ·rw [if_pos c16] at H
         have c16b0 : decide (65 ≤ (bt a0 x8_1)) = true := decide_eq_true c16
         clear c16
         by_cases c17 : ((bt a0 x8_1) ≤ 90)
         ·rw [if_pos c17] at H
          have c17b0 : decide ((bt a0 x8_1) ≤ 90) = true := decide_eq_true c17
          clear c17
          have H' := Aside0.mk H
          clear H
          have p5 : 0 ≤ (x8_1 : Int) := of_decide_eq_true (by first | (with_reducible assumption) | assumption)
          have q5 : x8_1 < (a0.size : Int) := of_decide_eq_true (by first | (with_reducible assumption) | assumption)
          have hx5 := bt_at a0 x8_1
          replace p5 := eq_true p5
          replace q5 := eq_true q5
          go_wp2
          go_roundg k1
          case measure => have := HK1.out; omega
          case rel => exact ⟨(wrap64 (x8_1 + 1)), (by first | rfl | (simp; done) | (simp [*]; done)), H', ⟨by have := HK1.out; omega⟩, by repeat (first | exact Drawn0.refl _ | apply Drawn0.step)⟩
         ·rw [if_neg c17] at H
          have c17b0 : decide ((bt a0 x8_1) ≤ 90) = false := decide_eq_false c17
          clear c17
          by_cases c18 : x8_1 = 0
          ·rw [if_pos c18] at H
           have c18b0 : (x8_1 == 0) = true := beq_iff_eq.mpr c18
           have c18b1 : (x8_1 != 0) = false := bne_eq_false_iff_eq.mpr c18
           clear c18
           obtain rfl := Option.some.inj H
           have p5 : 0 ≤ (x8_1 : Int) := of_decide_eq_true (by first | (with_reducible assumption) | assumption)
           have q5 : x8_1 < (a0.size : Int) := of_decide_eq_true (by first | (with_reducible assumption) | assumption)
           have hx5 := bt_at a0 x8_1
           replace p5 := eq_true p5
           replace q5 := eq_true q5
           go_wp2
           go_ret
           exact ⟨by first | rfl | (simp; done) | (simp [*]; done), by repeat (first | exact Drawn0.refl _ | apply Drawn0.step)⟩
          ·rw [if_neg c18] at H
           have c18b0 : (x8_1 == 0) = false := beq_eq_false_iff_ne.mpr c18
           have c18b1 : (x8_1 != 0) = true := bne_iff_ne.mpr c18
           by_cases c19 : (bt a0 x8_1) < 48
           ·rw [if_pos c19] at H
            have c19b0 : decide ((bt a0 x8_1) < 48) = true := decide_eq_true c19
            clear c19
            obtain rfl := Option.some.inj H
            have p5 : 0 ≤ (x8_1 : Int) := of_decide_eq_true (by first | (with_reducible assumption) | assumption)
            have q5 : x8_1 < (a0.size : Int) := of_decide_eq_true (by first | (with_reducible assumption) | assumption)
            have hx5 := bt_at a0 x8_1
            replace p5 := eq_true p5
            replace q5 := eq_true q5
            go_wp2
            go_ret
            exact ⟨by first | rfl | (simp; done) | (simp [*]; done), by repeat (first | exact Drawn0.refl _ | apply Drawn0.step)⟩
           ·rw [if_neg c19] at H
            have c19b0 : decide ((bt a0 x8_1) < 48) = false := decide_eq_false c19
            clear c19
            by_cases c20 : (bt a0 x8_1) > 57
            ·rw [if_pos c20] at H
             have c20b0 : decide (57 < (bt a0 x8_1)) = true := decide_eq_true c20
             clear c20
             obtain rfl := Option.some.inj H
             have p5 : 0 ≤ (x8_1 : Int) := of_decide_eq_true (by first | (with_reducible assumption) | assumption)
             have q5 : x8_1 < (a0.size : Int) := of_decide_eq_true (by first | (with_reducible assumption) | assumption)
             have hx5 := bt_at a0 x8_1
             replace p5 := eq_true p5
             replace q5 := eq_true q5
             go_wp2
             go_ret
             exact ⟨by first | rfl | (simp; done) | (simp [*]; done), by repeat (first | exact Drawn0.refl _ | apply Drawn0.step)⟩
            ·rw [if_neg c20] at H
             have c20b0 : decide (57 < (bt a0 x8_1)) = false := decide_eq_false c20
             clear c20
             have H' := Aside0.mk H
             clear H
             have p5 : 0 ≤ (x8_1 : Int) := of_decide_eq_true (by first | (with_reducible assumption) | assumption)
             have q5 : x8_1 < (a0.size : Int) := of_decide_eq_true (by first | (with_reducible assumption) | assumption)
             have hx5 := bt_at a0 x8_1
             replace p5 := eq_true p5
             replace q5 := eq_true q5
             go_wp2
             go_roundg k1
             case measure => have := HK1.out; omega
             case rel => exact ⟨(wrap64 (x8_1 + 1)), (by first | rfl | (simp; done) | (simp [*]; done)), H', ⟨by have := HK1.out; omega⟩, by repeat (first | exact Drawn0.refl _ | apply Drawn0.step)⟩
        ·rw [if_neg c16] at H
         have c16b0 : decide (65 ≤ (bt a0 x8_1)) = false := decide_eq_false c16
         clear c16
         by_cases c21 : x8_1 = 0
         ·rw [if_pos c21] at H
          have c21b0 : (x8_1 == 0) = true := beq_iff_eq.mpr c21
          have c21b1 : (x8_1 != 0) = false := bne_eq_false_iff_eq.mpr c21
          clear c21
          obtain rfl := Option.some.inj H
          have p5 : 0 ≤ (x8_1 : Int) := of_decide_eq_true (by first | (with_reducible assumption) | assumption)
          have q5 : x8_1 < (a0.size : Int) := of_decide_eq_true (by first | (with_reducible assumption) | assumption)
          have hx5 := bt_at a0 x8_1
          replace p5 := eq_true p5
          replace q5 := eq_true q5
          go_wp2
          go_ret
          exact ⟨by first | rfl | (simp; done) | (simp [*]; done), by repeat (first | exact Drawn0.refl _ | apply Drawn0.step)⟩
         ·rw [if_neg c21] at H
          have c21b0 : (x8_1 == 0) = false := beq_eq_false_iff_ne.mpr c21
          have c21b1 : (x8_1 != 0) = true := bne_iff_ne.mpr c21
          by_cases c22 : (bt a0 x8_1) < 48
          ·rw [if_pos c22] at H
           have c22b0 : decide ((bt a0 x8_1) < 48) = true := decide_eq_true c22
           clear c22
           obtain rfl := Option.some.inj H
           have p5 : 0 ≤ (x8_1 : Int) := of_decide_eq_true (by first | (with_reducible assumption) | assumption)
           have q5 : x8_1 < (a0.size : Int) := of_decide_eq_true (by first | (with_reducible assumption) | assumption)
           have hx5 := bt_at a0 x8_1
           replace p5 := eq_true p5
           replace q5 := eq_true q5
           go_wp2
           go_ret
           exact ⟨by first | rfl | (simp; done) | (simp [*]; done), by repeat (first | exact Drawn0.refl _ | apply Drawn0.step)⟩
          ·rw [if_neg c22] at H
           have c22b0 : decide ((bt a0 x8_1) < 48) = false := decide_eq_false c22
           clear c22
           by_cases c23 : (bt a0 x8_1) > 57
           ·rw [if_pos c23] at H
            have c23b0 : decide (57 < (bt a0 x8_1)) = true := decide_eq_true c23
            clear c23
            obtain rfl := Option.some.inj H
            have p5 : 0 ≤ (x8_1 : Int) := of_decide_eq_true (by first | (with_reducible assumption) | assumption)
            have q5 : x8_1 < (a0.size : Int) := of_decide_eq_true (by first | (with_reducible assumption) | assumption)
            have hx5 := bt_at a0 x8_1
            replace p5 := eq_true p5
            replace q5 := eq_true q5
            go_wp2
            go_ret
            exact ⟨by first | rfl | (simp; done) | (simp [*]; done), by repeat (first | exact Drawn0.refl _ | apply Drawn0.step)⟩
           ·rw [if_neg c23] at H
            have c23b0 : decide (57 < (bt a0 x8_1)) = false := decide_eq_false c23
            clear c23
            have H' := Aside0.mk H
            clear H
            have p5 : 0 ≤ (x8_1 : Int) := of_decide_eq_true (by first | (with_reducible assumption) | assumption)
            have q5 : x8_1 < (a0.size : Int) := of_decide_eq_true (by first | (with_reducible assumption) | assumption)
            have hx5 := bt_at a0 x8_1
            replace p5 := eq_true p5
            replace q5 := eq_true q5
            go_wp2
            go_roundg k1
            case measure => have := HK1.out; omega
            case rel => exact ⟨(wrap64 (x8_1 + 1)), (by first | rfl | (simp; done) | (simp [*]; done)), H', ⟨by have := HK1.out; omega⟩, by repeat (first | exact Drawn0.refl _ | apply Drawn0.step)⟩
      ·rw [if_neg c4] at H
       exact absurd H (by simp)
     ·rw [if_neg c3] at H
      exact absurd H (by simp)
    ·rw [if_neg c2] at H
     have c2b0 : decide (x8_1 < (a0.size : Int)) = false := decide_eq_false c2
     clear c2
     by_cases c24 : a0.toList = ([] : List UInt8)
     ·rw [if_pos c24] at H
      have c24b0 : (a0.toList == ([] : List UInt8)) = true := beq_iff_eq.mpr c24
      have c24b1 : (a0.toList != ([] : List UInt8)) = false := bne_eq_false_iff_eq.mpr c24
      clear c24
      obtain rfl := Option.some.inj H
      go_wp2
      go_ret
      exact ⟨by first | rfl | (simp; done) | (simp [*]; done), by repeat (first | exact Drawn0.refl _ | apply Drawn0.step)⟩
     ·rw [if_neg c24] at H
      have c24b0 : (a0.toList == ([] : List UInt8)) = false := beq_eq_false_iff_ne.mpr c24
      have c24b1 : (a0.toList != ([] : List UInt8)) = true := bne_iff_ne.mpr c24
      obtain rfl := Option.some.inj H
      go_wp2
      go_ret
      exact ⟨by first | rfl | (simp; done) | (simp [*]; done), by repeat (first | exact Drawn0.refl _ | apply Drawn0.step)⟩

end Go.Proofs.YtkihaebaccdjdaaGreatDoor.PX
