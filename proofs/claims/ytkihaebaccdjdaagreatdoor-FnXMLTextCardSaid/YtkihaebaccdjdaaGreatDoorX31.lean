import Derived.Test.YtkihaebaccdjdaaGreatDoorX5
import Derived.Test.YtkihaebaccdjdaaGreatDoorX29
import Derived.Test.YtkihaebaccdjdaaGreatDoorX30
namespace Go.Proofs.YtkihaebaccdjdaaGreatDoor.PX
open Go.RowKit Go.Proofs.YtkihaebaccdjdaaGreatDoorW.PrintWords Go.Proofs.YtkihaebaccdjdaaGreatDoorW.PrintLast Go.Proofs.YtkihaebaccdjdaaGreatDoorW.PrintMore
attribute [local go_sem] max2_int min2_int max_two min_two max_three min_three max_four min_four   -- for this text's walks alone
set_option linter.unusedVariables false
set_option linter.unusedSimpArgs false

/-! ### spec_digit: function 79 -/
mutual
def spec_digit.j0 : Nat → Int → Bool → Option (Int × Bool)
 | 0, _, _ => none
 | k + 1, x0, x4 => if x4 = true then (some ((x0 - 48) % 256, true)) else (if x0 ≥ 65 then (spec_digit.j1 k x0 (decide (x0 ≤ 70))) else (spec_digit.j1 k x0 false))
def spec_digit.j1 : Nat → Int → Bool → Option (Int × Bool)
 | 0, _, _ => none
 | k + 1, x0, x13 => if x13 = true then (some ((((x0 - 65) % 256) + 10) % 256, true)) else (if x0 ≥ 97 then (if x0 ≤ 102 then (some ((((x0 - 97) % 256) + 10) % 256, true)) else (some (0, false))) else (some (0, false)))
end
def spec_digit.f (k : Nat) (a0 : Int) : Option (Int × Bool) := if a0 ≥ 48 then (spec_digit.j0 k a0 (decide (a0 ≤ 57))) else (spec_digit.j0 k a0 false)
set_option maxHeartbeats 8000000 in
set_option maxRecDepth 100000 in
theorem spec_digit.calls (k : Nat) (a0 : Int) (r1 : Int) (r2 : Bool) (w : World) (h : spec_digit.f k a0 = some (r1, r2)) :
 Calls Tryz.prog 79 #[.int .u8 a0] w fun e w' => e = .returned (.tuple #[.int .u8 r1, .bool r2]) ∧ Drawn0 w w' := by
 have H : (if a0 ≥ 48 then (spec_digit.j0 k a0 (decide (a0 ≤ 57))) else (spec_digit.j0 k a0 false)) = some (r1, r2) := h
 clear h
 have HC2 := Aside0.mk H
 clear H
 go_enter Tryz.func79, Tryz.ntmps79
 go_upto_region 1 with (fail)
 go_cut [4] (fun v4 wc => ∃ (kq : Nat) (x4_1 : Bool), v4 = .bool x4_1 ∧ Aside0 (spec_digit.j0 kq a0 x4_1 = some (r1, r2)) ∧ Aside0 (kq ≤ k) ∧ Drawn0 w wc)
 case first =>
  have H := HC2.out
  clear HC2
  by_cases c3 : a0 ≥ 48
  ·rw [if_pos c3] at H
   have c3b0 : decide (48 ≤ a0) = true := decide_eq_true c3
   clear c3
   (first | rw [c3b0] | (simp only [i64_w, i32_w]; rw [c3b0]) | skip)
   have H' := Aside0.mk H
   clear H
   go_wp2
   go_meet
   case rel => exact ⟨_, (decide (a0 ≤ 57)), (by first | rfl | (simp; done) | (simp [*]; done)), H', ⟨by first | omega | exact Nat.le_refl _⟩, by repeat (first | exact Drawn0.refl _ | apply Drawn0.step)⟩
  ·rw [if_neg c3] at H
   have c3b0 : decide (48 ≤ a0) = false := decide_eq_false c3
   clear c3
   (first | rw [c3b0] | (simp only [i64_w, i32_w]; rw [c3b0]) | skip)
   have H' := Aside0.mk H
   clear H
   go_wp2
   go_meet
   case rel => exact ⟨_, (false), (by first | rfl | (simp; done) | (simp [*]; done)), H', ⟨by first | omega | exact Nat.le_refl _⟩, by repeat (first | exact Drawn0.refl _ | apply Drawn0.step)⟩
 case rest =>
  clear HC2
  try clear p2
  try clear c3
  try clear c3b0
  obtain ⟨kq, x4_1, rfl, HA, HJ1, ⟨mc1, rfl⟩⟩ := hcut
  cases kq with
  | zero => exact absurd HA.out (by simp [spec_digit.j0])
  | succ kj1 =>
    have H := HA.out
    clear HA
    simp only [spec_digit.j0] at H
    by_cases c4 : x4_1 = true
    ·subst c4
     have H1 : (some ((a0 - 48) % 256, true)) = some (r1, r2) := by rw [if_pos rfl] at H; exact H
     clear H
     have H := H1
     clear H1
     simp only [Option.some.injEq, Prod.mk.injEq] at H
     obtain ⟨rfl, rfl⟩ := H
     go_wp2
     go_ret2
     exact ⟨by first | rfl | (simp; done) | (simp [*]; done), by repeat (first | exact Drawn0.refl _ | apply Drawn0.step)⟩
    ·replace c4 := Bool.eq_false_iff.mpr c4
     subst c4
     have H1 : (if a0 ≥ 65 then (spec_digit.j1 kj1 a0 (decide (a0 ≤ 70))) else (spec_digit.j1 kj1 a0 false)) = some (r1, r2) := by rw [if_neg (show ¬ (false = true) by decide)] at H; exact H
     clear H
     have H := H1
     clear H1
     have HC5 := Aside0.mk H
     clear H
     go_upto_region 3 with (fail)
     go_cut [13] (fun v13 wc => ∃ (kq : Nat) (x13_4 : Bool), v13 = .bool x13_4 ∧ Aside0 (spec_digit.j1 kq a0 x13_4 = some (r1, r2)) ∧ Aside0 (kq ≤ kj1) ∧ Drawn0 w wc)
     case first =>
      have H := HC5.out
      clear HC5
      by_cases c6 : a0 ≥ 65
      ·rw [if_pos c6] at H
       have c6b0 : decide (65 ≤ a0) = true := decide_eq_true c6
       clear c6
       (first | rw [c6b0] | (simp only [i64_w, i32_w]; rw [c6b0]) | skip)
       have H' := Aside0.mk H
       clear H
       go_wp2
       go_meet
       case rel => exact ⟨_, (decide (a0 ≤ 70)), (by first | rfl | (simp; done) | (simp [*]; done)), H', ⟨by have := HJ1.out; first | omega | exact Nat.le_refl _⟩, by repeat (first | exact Drawn0.refl _ | apply Drawn0.step)⟩
      ·rw [if_neg c6] at H
       have c6b0 : decide (65 ≤ a0) = false := decide_eq_false c6
       clear c6
       (first | rw [c6b0] | (simp only [i64_w, i32_w]; rw [c6b0]) | skip)
       have H' := Aside0.mk H
       clear H
       go_wp2
       go_meet
       case rel => exact ⟨_, (false), (by first | rfl | (simp; done) | (simp [*]; done)), H', ⟨by have := HJ1.out; first | omega | exact Nat.le_refl _⟩, by repeat (first | exact Drawn0.refl _ | apply Drawn0.step)⟩
     case rest =>
      clear HC5
      try clear c1
      try clear p2
      try clear c3
      try clear c3b0
      try clear c4
      try clear c6
      try clear c6b0
      try clear p2
      obtain ⟨kq, x13_4, rfl, HA, HJ4, ⟨mc4, rfl⟩⟩ := hcut
      cases kq with
      | zero => exact absurd HA.out (by simp [spec_digit.j1])
      | succ kj4 =>
        have H := HA.out
        clear HA
        simp only [spec_digit.j1] at H
        by_cases c7 : x13_4 = true
        ·subst c7
         have H1 : (some ((((a0 - 65) % 256) + 10) % 256, true)) = some (r1, r2) := by rw [if_pos rfl] at H; exact H
         clear H
         have H := H1
         clear H1
         simp only [Option.some.injEq, Prod.mk.injEq] at H
         obtain ⟨rfl, rfl⟩ := H
         go_wp2
         go_ret2
         exact ⟨by first | rfl | (simp; done) | (simp [*]; done), by repeat (first | exact Drawn0.refl _ | apply Drawn0.step)⟩
        ·replace c7 := Bool.eq_false_iff.mpr c7
         subst c7
         have H1 : (if a0 ≥ 97 then (if a0 ≤ 102 then (some ((((a0 - 97) % 256) + 10) % 256, true)) else (some (0, false))) else (some (0, false))) = some (r1, r2) := by rw [if_neg (show ¬ (false = true) by decide)] at H; exact H
         clear H
         have H := H1
         clear H1
         by_cases c8 : a0 ≥ 97
         ·rw [if_pos c8] at H
          have c8b0 : decide (97 ≤ a0) = true := decide_eq_true c8
          clear c8
          by_cases c9 : a0 ≤ 102
          ·rw [if_pos c9] at H
           have c9b0 : decide (a0 ≤ 102) = true := decide_eq_true c9
           clear c9
           simp only [Option.some.injEq, Prod.mk.injEq] at H
           obtain ⟨rfl, rfl⟩ := H
           go_wp2
           go_ret2
           exact ⟨by first | rfl | (simp; done) | (simp [*]; done), by repeat (first | exact Drawn0.refl _ | apply Drawn0.step)⟩
          ·rw [if_neg c9] at H
           have c9b0 : decide (a0 ≤ 102) = false := decide_eq_false c9
           clear c9
           simp only [Option.some.injEq, Prod.mk.injEq] at H
           obtain ⟨rfl, rfl⟩ := H
           go_wp2
           go_ret2
           exact ⟨by first | rfl | (simp; done) | (simp [*]; done), by repeat (first | exact Drawn0.refl _ | apply Drawn0.step)⟩
         ·rw [if_neg c8] at H
          have c8b0 : decide (97 ≤ a0) = false := decide_eq_false c8
          clear c8
          simp only [Option.some.injEq, Prod.mk.injEq] at H
          obtain ⟨rfl, rfl⟩ := H
          go_wp2
          go_ret2
          exact ⟨by first | rfl | (simp; done) | (simp [*]; done), by repeat (first | exact Drawn0.refl _ | apply Drawn0.step)⟩

end Go.Proofs.YtkihaebaccdjdaaGreatDoor.PX
namespace Go.Proofs.YtkihaebaccdjdaaGreatDoor.PX
open Go.RowKit Go.Proofs.YtkihaebaccdjdaaGreatDoorW.PrintWords Go.Proofs.YtkihaebaccdjdaaGreatDoorW.PrintLast Go.Proofs.YtkihaebaccdjdaaGreatDoorW.PrintMore
attribute [local go_sem] max2_int min2_int max_two min_two max_three min_three max_four min_four   -- for this text's walks alone
set_option linter.unusedVariables false
set_option linter.unusedSimpArgs false

/-! ### spec_reader_hex: function 191 -/
def spec_reader_hex.l0 : Nat → Int → Int → ByteArray → Bool → Option (Int × ByteArray × Bool)
 | 0, _, _, _, _ => none
 | k + 1, x3, x6, x1000, x1001 => if x6 < 4 then ((spec_reader_peek.f x1000 x1001).bind fun bt382 => ((spec_digit.f k bt382.1).bind fun bt385 => (if bt382.2.1.toList = ([] : List UInt8) then (some (0, bt382.2.1, true)) else (if bt385.2 = true then (if 1 ≤ (bt382.2.1.size : Int) then (spec_reader_hex.l0 k (Go.bits .or .i32 (wrap32 (x3 * 16)) (wrap32 (bt385.1))) (wrap64 (x6 + 1)) (bt382.2.1.extract 1 bt382.2.1.size) bt382.2.2) else (none)) else (some (0, bt382.2.1, true)))))) else (some (x3, x1000, x1001))
def spec_reader_hex.f (k : Nat) (s0_0 : ByteArray) (s0_1 : Bool) : Option (Int × ByteArray × Bool) := spec_reader_hex.l0 k 0 0 s0_0 s0_1
end Go.Proofs.YtkihaebaccdjdaaGreatDoor.PX
namespace Go.Proofs.YtkihaebaccdjdaaGreatDoor.PX
open Go.RowKit Go.Proofs.YtkihaebaccdjdaaGreatDoorW.PrintWords Go.Proofs.YtkihaebaccdjdaaGreatDoorW.PrintLast Go.Proofs.YtkihaebaccdjdaaGreatDoorW.PrintMore
attribute [local go_sem] max2_int min2_int max_two min_two max_three min_three max_four min_four   -- for this text's walks alone
set_option linter.unusedVariables false
set_option linter.unusedSimpArgs false

/-! ### spec_utf8: function 192 -/
def spec_utf8.f (a0 : Int) : Option (ByteArray) := if a0 < 128 then (some (strOfNums (([(a0) % 256] : List Int)))) else (if a0 < 2048 then (some (strOfNums (([Go.bits .or .u8 192 ((a0 / 64) % 256), Go.bits .or .u8 128 ((Go.bits .and .i32 a0 63) % 256)] : List Int)))) else (if a0 < 65536 then (some (strOfNums (([Go.bits .or .u8 224 ((a0 / 4096) % 256), Go.bits .or .u8 128 ((Go.bits .and .i32 (a0 / 64) 63) % 256), Go.bits .or .u8 128 ((Go.bits .and .i32 a0 63) % 256)] : List Int)))) else (some (strOfNums (([Go.bits .or .u8 240 ((a0 / 262144) % 256), Go.bits .or .u8 128 ((Go.bits .and .i32 (a0 / 4096) 63) % 256), Go.bits .or .u8 128 ((Go.bits .and .i32 (a0 / 64) 63) % 256), Go.bits .or .u8 128 ((Go.bits .and .i32 a0 63) % 256)] : List Int))))))
set_option maxHeartbeats 8000000 in
set_option maxRecDepth 100000 in
theorem spec_utf8.calls (a0 : Int) (r : ByteArray) (w : World) (h : spec_utf8.f a0 = some r) :
 Calls Tryz.prog 192 #[.int .i32 a0] w fun e w' => e = .returned (.string r) ∧ Below w.heap.size w w' := by
 have HB := Aside0.mk (Below.refl w.heap.size w)
 have H : (if a0 < 128 then (some (strOfNums (([(a0) % 256] : List Int)))) else (if a0 < 2048 then (some (strOfNums (([Go.bits .or .u8 192 ((a0 / 64) % 256), Go.bits .or .u8 128 ((Go.bits .and .i32 a0 63) % 256)] : List Int)))) else (if a0 < 65536 then (some (strOfNums (([Go.bits .or .u8 224 ((a0 / 4096) % 256), Go.bits .or .u8 128 ((Go.bits .and .i32 (a0 / 64) 63) % 256), Go.bits .or .u8 128 ((Go.bits .and .i32 a0 63) % 256)] : List Int)))) else (some (strOfNums (([Go.bits .or .u8 240 ((a0 / 262144) % 256), Go.bits .or .u8 128 ((Go.bits .and .i32 (a0 / 4096) 63) % 256), Go.bits .or .u8 128 ((Go.bits .and .i32 (a0 / 64) 63) % 256), Go.bits .or .u8 128 ((Go.bits .and .i32 a0 63) % 256)] : List Int))))))) = some r := h
 clear h
 by_cases c2 : a0 < 128
 ·rw [if_pos c2] at H
  have c2b0 : decide (a0 < 128) = true := decide_eq_true c2
  clear c2
  obtain ⟨y387, hy387⟩ : ∃ y_ : List Int, y_ = (([(a0) % 256] : List Int)) := ⟨_, rfl⟩
  replace H : (some (strOfNums y387)) = some r := by (rw [hy387]; with_reducible exact H)
  have Ny387 := Aside0.mk hy387
  clear hy387
  obtain rfl := Option.some.inj H
  go_enter Tryz.func192, Tryz.ntmps192
  go_wp2_with (first | ((with_reducible refine gate_dst (N := 8) rfl ?_); refine Kd.R_lit (Kd.int .u8) _ 5 ?hg (N := 8) ?hd (xs := ([(a0) % 256] : List Int)) (inner := [.int .u8 ((a0) % 256)]) (ok := fun _ => True) (okp := fun _ => True) ?hr ?hp (fun _ hk => hk) trivial (Below.refl _ _) (Nat.le_refl _) (by simp) ?_; (case hd => rfl); (case hg => rfl); (case hr => first | (go_simp; done) | (go_simp; rfl)); (case hp => exact (Reps.one (show Kd.M (Kd.int .u8) _ _ _ ((a0) % 256) [.int .u8 ((a0) % 256)] from rfl) (Reps.none _ _))); intro v388 w3 ho4 hb hg_ hnew_; clear hg_ hnew_; (rw [← Ny387.out] at ho4); have n0_ := Aside0.mk (Kd.R_lower ho4 (below_size (by repeat ((with_reducible exact HB.out))))); have n1_ := Aside0.mk (below_step (by repeat ((with_reducible exact HB.out))) hb); clear HB; have HO389 := n0_; have HB := n1_; clear n0_ n1_; clear hb ho4; have hcv5 := own_string (P := Tryz.prog) Tryz.underlying22 Tryz.underlying5 Tryz.underlying9 (Kd.own_of_R HO389.out)))
  go_ret
  exact ⟨by rfl, by repeat ((with_reducible exact HB.out))⟩
 ·rw [if_neg c2] at H
  have c2b0 : decide (a0 < 128) = false := decide_eq_false c2
  clear c2
  by_cases c6 : a0 < 2048
  ·rw [if_pos c6] at H
   have c6b0 : decide (a0 < 2048) = true := decide_eq_true c6
   clear c6
   obtain ⟨y390, hy390⟩ : ∃ y_ : List Int, y_ = (([Go.bits .or .u8 192 ((a0 / 64) % 256), Go.bits .or .u8 128 ((Go.bits .and .i32 a0 63) % 256)] : List Int)) := ⟨_, rfl⟩
   replace H : (some (strOfNums y390)) = some r := by (rw [hy390]; with_reducible exact H)
   have Ny390 := Aside0.mk hy390
   clear hy390
   obtain rfl := Option.some.inj H
   go_enter Tryz.func192, Tryz.ntmps192
   go_wp2_with (first | ((with_reducible refine gate_dst (N := 21) rfl ?_); refine Kd.R_lit (Kd.int .u8) _ 5 ?hg (N := 21) ?hd (xs := ([Go.bits .or .u8 192 ((a0 / 64) % 256), Go.bits .or .u8 128 ((Go.bits .and .i32 a0 63) % 256)] : List Int)) (inner := [.int .u8 (Go.bits .or .u8 192 ((a0 / 64) % 256)), .int .u8 (Go.bits .or .u8 128 ((Go.bits .and .i32 a0 63) % 256))]) (ok := fun _ => True) (okp := fun _ => True) ?hr ?hp (fun _ hk => hk) trivial (Below.refl _ _) (Nat.le_refl _) (by simp) ?_; (case hd => rfl); (case hg => rfl); (case hr => first | (go_simp; done) | (go_simp; rfl)); (case hp => exact (Reps.one (show Kd.M (Kd.int .u8) _ _ _ (Go.bits .or .u8 192 ((a0 / 64) % 256)) [.int .u8 (Go.bits .or .u8 192 ((a0 / 64) % 256))] from rfl) (Reps.one (show Kd.M (Kd.int .u8) _ _ _ (Go.bits .or .u8 128 ((Go.bits .and .i32 a0 63) % 256)) [.int .u8 (Go.bits .or .u8 128 ((Go.bits .and .i32 a0 63) % 256))] from rfl) (Reps.none _ _)))); intro v391 w7 ho8 hb hg_ hnew_; clear hg_ hnew_; (rw [← Ny390.out] at ho8); have n0_ := Aside0.mk (Kd.R_lower ho8 (below_size (by repeat ((with_reducible exact HB.out))))); have n1_ := Aside0.mk (below_step (by repeat ((with_reducible exact HB.out))) hb); clear HB; have HO392 := n0_; have HB := n1_; clear n0_ n1_; clear hb ho8; have hcv9 := own_string (P := Tryz.prog) Tryz.underlying22 Tryz.underlying5 Tryz.underlying9 (Kd.own_of_R HO392.out)))
   go_ret
   exact ⟨by rfl, by repeat ((with_reducible exact HB.out))⟩
  ·rw [if_neg c6] at H
   have c6b0 : decide (a0 < 2048) = false := decide_eq_false c6
   clear c6
   by_cases c10 : a0 < 65536
   ·rw [if_pos c10] at H
    have c10b0 : decide (a0 < 65536) = true := decide_eq_true c10
    clear c10
    obtain ⟨y393, hy393⟩ : ∃ y_ : List Int, y_ = (([Go.bits .or .u8 224 ((a0 / 4096) % 256), Go.bits .or .u8 128 ((Go.bits .and .i32 (a0 / 64) 63) % 256), Go.bits .or .u8 128 ((Go.bits .and .i32 a0 63) % 256)] : List Int)) := ⟨_, rfl⟩
    replace H : (some (strOfNums y393)) = some r := by (rw [hy393]; with_reducible exact H)
    have Ny393 := Aside0.mk hy393
    clear hy393
    obtain rfl := Option.some.inj H
    go_enter Tryz.func192, Tryz.ntmps192
    go_wp2_with (first | ((with_reducible refine gate_dst (N := 39) rfl ?_); refine Kd.R_lit (Kd.int .u8) _ 5 ?hg (N := 39) ?hd (xs := ([Go.bits .or .u8 224 ((a0 / 4096) % 256), Go.bits .or .u8 128 ((Go.bits .and .i32 (a0 / 64) 63) % 256), Go.bits .or .u8 128 ((Go.bits .and .i32 a0 63) % 256)] : List Int)) (inner := [.int .u8 (Go.bits .or .u8 224 ((a0 / 4096) % 256)), .int .u8 (Go.bits .or .u8 128 ((Go.bits .and .i32 (a0 / 64) 63) % 256)), .int .u8 (Go.bits .or .u8 128 ((Go.bits .and .i32 a0 63) % 256))]) (ok := fun _ => True) (okp := fun _ => True) ?hr ?hp (fun _ hk => hk) trivial (Below.refl _ _) (Nat.le_refl _) (by simp) ?_; (case hd => rfl); (case hg => rfl); (case hr => first | (go_simp; done) | (go_simp; rfl)); (case hp => exact (Reps.one (show Kd.M (Kd.int .u8) _ _ _ (Go.bits .or .u8 224 ((a0 / 4096) % 256)) [.int .u8 (Go.bits .or .u8 224 ((a0 / 4096) % 256))] from rfl) (Reps.one (show Kd.M (Kd.int .u8) _ _ _ (Go.bits .or .u8 128 ((Go.bits .and .i32 (a0 / 64) 63) % 256)) [.int .u8 (Go.bits .or .u8 128 ((Go.bits .and .i32 (a0 / 64) 63) % 256))] from rfl) (Reps.one (show Kd.M (Kd.int .u8) _ _ _ (Go.bits .or .u8 128 ((Go.bits .and .i32 a0 63) % 256)) [.int .u8 (Go.bits .or .u8 128 ((Go.bits .and .i32 a0 63) % 256))] from rfl) (Reps.none _ _))))); intro v394 w11 ho12 hb hg_ hnew_; clear hg_ hnew_; (rw [← Ny393.out] at ho12); have n0_ := Aside0.mk (Kd.R_lower ho12 (below_size (by repeat ((with_reducible exact HB.out))))); have n1_ := Aside0.mk (below_step (by repeat ((with_reducible exact HB.out))) hb); clear HB; have HO395 := n0_; have HB := n1_; clear n0_ n1_; clear hb ho12; have hcv13 := own_string (P := Tryz.prog) Tryz.underlying22 Tryz.underlying5 Tryz.underlying9 (Kd.own_of_R HO395.out)))
    go_ret
    exact ⟨by rfl, by repeat ((with_reducible exact HB.out))⟩
   ·rw [if_neg c10] at H
    have c10b0 : decide (a0 < 65536) = false := decide_eq_false c10
    clear c10
    obtain ⟨y396, hy396⟩ : ∃ y_ : List Int, y_ = (([Go.bits .or .u8 240 ((a0 / 262144) % 256), Go.bits .or .u8 128 ((Go.bits .and .i32 (a0 / 4096) 63) % 256), Go.bits .or .u8 128 ((Go.bits .and .i32 (a0 / 64) 63) % 256), Go.bits .or .u8 128 ((Go.bits .and .i32 a0 63) % 256)] : List Int)) := ⟨_, rfl⟩
    replace H : (some (strOfNums y396)) = some r := by (rw [hy396]; with_reducible exact H)
    have Ny396 := Aside0.mk hy396
    clear hy396
    obtain rfl := Option.some.inj H
    go_enter Tryz.func192, Tryz.ntmps192
    go_wp2_with (first | ((with_reducible refine gate_dst (N := 59) rfl ?_); refine Kd.R_lit (Kd.int .u8) _ 5 ?hg (N := 59) ?hd (xs := ([Go.bits .or .u8 240 ((a0 / 262144) % 256), Go.bits .or .u8 128 ((Go.bits .and .i32 (a0 / 4096) 63) % 256), Go.bits .or .u8 128 ((Go.bits .and .i32 (a0 / 64) 63) % 256), Go.bits .or .u8 128 ((Go.bits .and .i32 a0 63) % 256)] : List Int)) (inner := [.int .u8 (Go.bits .or .u8 240 ((a0 / 262144) % 256)), .int .u8 (Go.bits .or .u8 128 ((Go.bits .and .i32 (a0 / 4096) 63) % 256)), .int .u8 (Go.bits .or .u8 128 ((Go.bits .and .i32 (a0 / 64) 63) % 256)), .int .u8 (Go.bits .or .u8 128 ((Go.bits .and .i32 a0 63) % 256))]) (ok := fun _ => True) (okp := fun _ => True) ?hr ?hp (fun _ hk => hk) trivial (Below.refl _ _) (Nat.le_refl _) (by simp) ?_; (case hd => rfl); (case hg => rfl); (case hr => first | (go_simp; done) | (go_simp; rfl)); (case hp => exact (Reps.one (show Kd.M (Kd.int .u8) _ _ _ (Go.bits .or .u8 240 ((a0 / 262144) % 256)) [.int .u8 (Go.bits .or .u8 240 ((a0 / 262144) % 256))] from rfl) (Reps.one (show Kd.M (Kd.int .u8) _ _ _ (Go.bits .or .u8 128 ((Go.bits .and .i32 (a0 / 4096) 63) % 256)) [.int .u8 (Go.bits .or .u8 128 ((Go.bits .and .i32 (a0 / 4096) 63) % 256))] from rfl) (Reps.one (show Kd.M (Kd.int .u8) _ _ _ (Go.bits .or .u8 128 ((Go.bits .and .i32 (a0 / 64) 63) % 256)) [.int .u8 (Go.bits .or .u8 128 ((Go.bits .and .i32 (a0 / 64) 63) % 256))] from rfl) (Reps.one (show Kd.M (Kd.int .u8) _ _ _ (Go.bits .or .u8 128 ((Go.bits .and .i32 a0 63) % 256)) [.int .u8 (Go.bits .or .u8 128 ((Go.bits .and .i32 a0 63) % 256))] from rfl) (Reps.none _ _)))))); intro v397 w14 ho15 hb hg_ hnew_; clear hg_ hnew_; (rw [← Ny396.out] at ho15); have n0_ := Aside0.mk (Kd.R_lower ho15 (below_size (by repeat ((with_reducible exact HB.out))))); have n1_ := Aside0.mk (below_step (by repeat ((with_reducible exact HB.out))) hb); clear HB; have HO398 := n0_; have HB := n1_; clear n0_ n1_; clear hb ho15; have hcv16 := own_string (P := Tryz.prog) Tryz.underlying22 Tryz.underlying5 Tryz.underlying9 (Kd.own_of_R HO398.out)))
    go_ret
    exact ⟨by rfl, by repeat ((with_reducible exact HB.out))⟩

end Go.Proofs.YtkihaebaccdjdaaGreatDoor.PX
