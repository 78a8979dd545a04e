import Derived.Test.YtkihaebaccdjdaaGreatDoorX5
import Derived.Test.YtkihaebaccdjdaaGreatDoorX29
import Derived.Test.YtkihaebaccdjdaaGreatDoorX30
import Derived.Test.YtkihaebaccdjdaaGreatDoorX38
namespace Go.Proofs.YtkihaebaccdjdaaGreatDoor.PX
open Go.RowKit Go.Proofs.YtkihaebaccdjdaaGreatDoorW.PrintWords Go.Proofs.YtkihaebaccdjdaaGreatDoorW.PrintLast Go.Proofs.YtkihaebaccdjdaaGreatDoorW.PrintMore
attribute [local go_sem] max2_int min2_int max_two min_two max_three min_three max_four min_four   -- for this text's walks alone
set_option linter.unusedVariables false
set_option linter.unusedSimpArgs false

/-! ### spec_reader_data: function 162 -/
mutual
def spec_reader_data.l0 : Nat → Int → Bool → List Int → ByteArray → Bool → Option (ByteArray × ByteArray × Bool)
 | 0, _, _, _, _, _ => none
 | k + 1, x1, x2, x7, x1000, x1001 => if x1000.toList = ([] : List UInt8) then (spec_reader_data.j1 k x1 x2 x7 false x1000 x1001) else (if 0 < (x1000.size : Int) then (if (bt x1000 0) = x1 then (spec_reader_data.j1 k x1 x2 x7 false x1000 x1001) else (spec_reader_data.j1 k x1 x2 x7 (!x1001) x1000 x1001)) else (none))
def spec_reader_data.j1 : Nat → Int → Bool → List Int → Bool → ByteArray → Bool → Option (ByteArray × ByteArray × Bool)
 | 0, _, _, _, _, _, _ => none
 | k + 1, x1, x2, x7, x31, x1000, x1001 => if x31 = true then (if 0 < (x1000.size : Int) then ((spec_reader_take.f x1000 x1001 (⟨#[38]⟩ : ByteArray)).bind fun bt507 => (if bt507.1 = true then ((spec_reader_reference.f k bt507.2.1 bt507.2.2).bind fun bt510 => (if x7.length + bt510.1.size < 140737488355328 then (spec_reader_data.l0 k x1 x2 (x7 ++ bytesOf bt510.1) bt510.2.1 bt510.2.2) else (none))) else (if (bt x1000 0) = 60 then (spec_reader_data.j2 k x1 x2 x7 (bt x1000 0) true bt507.2.1 bt507.2.2) else (if x2 = true then (spec_reader_data.j2 k x1 x2 x7 (bt x1000 0) false bt507.2.1 bt507.2.2) else ((spec_Begins.f bt507.2.1 (⟨#[93, 93, 62]⟩ : ByteArray)).bind fun t516 => (spec_reader_data.j2 k x1 x2 x7 (bt x1000 0) t516 bt507.2.1 bt507.2.2)))))) else (none)) else (some (strOfNums x7, x1000, x1001))
def spec_reader_data.j2 : Nat → Int → Bool → List Int → Int → Bool → ByteArray → Bool → Option (ByteArray × ByteArray × Bool)
 | 0, _, _, _, _, _, _, _ => none
 | k + 1, x1, x2, x7, x8, x56, x1000, x1001 => if x56 = true then (spec_reader_data.l0 k x1 x2 x7 x1000 true) else ((spec_reader_take.f x1000 x1001 (⟨#[13, 10]⟩ : ByteArray)).bind fun bt517 => (if bt517.1 = true then (if x7.length < 140737488355328 then ((some (x7 ++ [10] : List Int)).bind fun y520 => (if x2 = true then (if 0 ≤ (wrap64 ((y520.length : Int) - 1)) then (if (wrap64 ((y520.length : Int) - 1)) < (y520.length : Int) then (if (rd y520 (wrap64 ((y520.length : Int) - 1))) = 10 then (none) else (if (rd y520 (wrap64 ((y520.length : Int) - 1))) = 9 then (none) else (spec_reader_data.l0 k x1 x2 y520 bt517.2.1 bt517.2.2))) else (none)) else (none)) else (spec_reader_data.l0 k x1 x2 y520 bt517.2.1 bt517.2.2))) else (none)) else (if x8 = 13 then (if x7.length < 140737488355328 then ((some (x7 ++ [10] : List Int)).bind fun y525 => (if 1 ≤ (bt517.2.1.size : Int) then (if x2 = true then (if 0 ≤ (wrap64 ((y525.length : Int) - 1)) then (if (wrap64 ((y525.length : Int) - 1)) < (y525.length : Int) then (if (rd y525 (wrap64 ((y525.length : Int) - 1))) = 10 then (none) else (if (rd y525 (wrap64 ((y525.length : Int) - 1))) = 9 then (none) else (spec_reader_data.l0 k x1 x2 y525 (bt517.2.1.extract 1 bt517.2.1.size) bt517.2.2))) else (none)) else (none)) else (spec_reader_data.l0 k x1 x2 y525 (bt517.2.1.extract 1 bt517.2.1.size) bt517.2.2)) else (none))) else (none)) else (if x7.length < 140737488355328 then ((some (x7 ++ [x8] : List Int)).bind fun y530 => (if 1 ≤ (bt517.2.1.size : Int) then (if x2 = true then (if 0 ≤ (wrap64 ((y530.length : Int) - 1)) then (if (wrap64 ((y530.length : Int) - 1)) < (y530.length : Int) then (if (rd y530 (wrap64 ((y530.length : Int) - 1))) = 10 then (none) else (if (rd y530 (wrap64 ((y530.length : Int) - 1))) = 9 then (none) else (spec_reader_data.l0 k x1 x2 y530 (bt517.2.1.extract 1 bt517.2.1.size) bt517.2.2))) else (none)) else (none)) else (spec_reader_data.l0 k x1 x2 y530 (bt517.2.1.extract 1 bt517.2.1.size) bt517.2.2)) else (none))) else (none)))))
end
def spec_reader_data.f (k : Nat) (s0_0 : ByteArray) (s0_1 : Bool) (a1 : Int) (a2 : Bool) : Option (ByteArray × ByteArray × Bool) := spec_reader_data.l0 k a1 a2 (([] : List Int)) s0_0 s0_1
set_option maxHeartbeats 8000000 in
set_option maxRecDepth 100000 in
theorem spec_reader_data.calls (k : Nat) (g : Nat) (s0_0 : ByteArray) (s0_1 : Bool) (a1 : Int) (a2 : Bool) (r1 : ByteArray) (r2 : ByteArray) (r3 : Bool) (w0 w : World) (hI : IsS80 w0 w g s0_0 s0_1) (hB : Below w0.heap.size w0 w) (h : spec_reader_data.f k s0_0 s0_1 a1 a2 = some (r1, r2, r3)) :
 Calls Tryz.prog 162 #[.pointer (some ⟨g, 0, none⟩), .int .u8 a1, .bool a2] w fun e w' => e = .returned (.string r1) ∧ IsS80 w0 w' g r2 r3 ∧ Below w0.heap.size w0 w' ∧ KeepBut w w' g none := by
 have HI0 := Aside0.mk hI
 have HK := Aside0.mk (KeepBut.refl w g none)
 have HL := Aside0.mk hB.size
 clear hI
 have HW0 := Aside0.mk hB.size
 have HB := Aside0.mk hB
 clear hB
 have H : (spec_reader_data.l0 k a1 a2 (([] : List Int)) s0_0 s0_1) = some (r1, r2, r3) := h
 clear h
 obtain ⟨y504, hy504⟩ : ∃ y_ : List Int, y_ = (([] : List Int)) := ⟨_, rfl⟩
 replace H : (spec_reader_data.l0 k a1 a2 y504 s0_0 s0_1) = some (r1, r2, r3) := by (rw [hy504]; with_reducible exact H)
 have Ny504 := Aside0.mk hy504
 clear hy504
 have H' := Aside0.mk H
 clear H
 go_enter Tryz.func162, Tryz.ntmps162
 go_wp2_with (first | ((with_reducible refine gate_dst (N := 10) rfl ?_); refine Kd.R_lit (Kd.int .u8) _ 5 ?hg (N := 10) ?hd (xs := ([] : List Int)) (inner := []) (ok := fun _ => True) (okp := fun _ => True) ?hr ?hp (fun _ hk => hk) trivial (Below.refl _ _) (Nat.le_refl _) (by simp) ?_; (case hd => rfl); (case hg => rfl); (case hr => first | (go_simp; done) | (go_simp; rfl)); (case hp => exact (Reps.none _ _)); intro v505 w4 ho5 hb hg_ hnew_; clear hg_ hnew_; (rw [← Ny504.out] at ho5); have n0_ := Aside0.mk (Kd.R_lower ho5 (keep_size (w := w) (g := g) (row := none) (by repeat ((with_reducible exact HK.out))))); have n1_ := Aside0.mk (IsS80.below (by repeat ((with_reducible exact HI0.out))) hb); have n2_ := Aside0.mk (KeepBut.trans (by repeat ((with_reducible exact HK.out))) (KeepBut.of_below hb g none) (.inl rfl)); have n3_ := Aside0.mk (below_step (by repeat ((with_reducible exact HB.out))) hb); clear HI0; clear HK; clear HB; have HO506 := n0_; have HI0 := n1_; have HK := n2_; have HB := n3_; clear n0_ n1_ n2_ n3_; clear hb ho5))
 go_loopg [7] k (fun kq v7 w' => ∃ (x7_1 : List Int) (x1000_1 : ByteArray) (x1001_1 : Bool), Aside0 (spec_reader_data.l0 kq a1 a2 x7_1 x1000_1 x1001_1 = some (r1, r2, r3)) ∧ Aside0 (kq ≤ k) ∧ Aside0 (Kd.R (Kd.int .u8) 5 w' w.heap.size (fun _ => True) v7 x7_1) ∧ Aside0 (IsS80 w0 w' g x1000_1 x1001_1) ∧ Aside0 (KeepBut w w' g none) ∧ Aside0 (Below w0.heap.size w0 w'))
 case atStart => exact ⟨(y504), (s0_0), (s0_1), H', ⟨Nat.le_refl _⟩, ⟨by (with_reducible repeat (first | apply Kd.R_alloc | apply Kd.R_drewN | apply Kd.R_drew)); exact HO506.out⟩, ⟨by repeat ((with_reducible exact HI0.out))⟩, ⟨by repeat ((with_reducible exact HK.out))⟩, ⟨by repeat ((with_reducible exact HB.out))⟩⟩
 case round =>
  clear H'
  try clear c1
  try clear p2
  obtain ⟨x7_1, x1000_1, x1001_1, HA, HK1, HO_7, HI0, HK, HB⟩ := hrel
  cases gk with
  | zero => exact absurd HA.out (by simp [spec_reader_data.l0])
  | succ k1 =>
    have H := HA.out
    clear HA
    simp only [spec_reader_data.l0] at H
    have HC6 := Aside0.mk H
    clear H
    go_upto_region 2 with (fail)
    go_cut [31] (fun v31 wc => ∃ (kq : Nat) (x31_5 : Bool), v31 = .bool x31_5 ∧ Aside0 (spec_reader_data.j1 kq a1 a2 x7_1 x31_5 x1000_1 x1001_1 = some (r1, r2, r3)) ∧ Aside0 (kq ≤ k1) ∧ Aside0 (Kd.R (Kd.int .u8) 5 wc w.heap.size (fun _ => True) u7 x7_1) ∧ Aside0 (IsS80 w0 wc g x1000_1 x1001_1) ∧ Aside0 (KeepBut w wc g none) ∧ Aside0 (Below w0.heap.size w0 wc))
    case first =>
     have H := HC6.out
     clear HC6
     by_cases c7 : x1000_1.toList = ([] : List UInt8)
     ·rw [if_pos c7] at H
      have c7b0 : (x1000_1.toList == ([] : List UInt8)) = true := beq_iff_eq.mpr c7
      have c7b1 : (x1000_1.toList != ([] : List UInt8)) = false := bne_eq_false_iff_eq.mpr c7
      clear c7
      (first | rw [c7b0] | (simp only [i64_w, i32_w]; rw [c7b0]) | skip)
      have H' := Aside0.mk H
      clear H
      obtain ⟨HGz8, hgz8⟩ := HI0.out
      have hcz8_0 := cellS80_0 HGz8
      have hcz8_1 := cellS80_1 HGz8
      have hfz8_0 := blk_frozen HGz8 0
      have hfz8_1 := blk_frozen HGz8 1
      clear HGz8 hgz8
      go_wp2
      go_meet
      case rel => exact ⟨_, (false), (by first | rfl | (simp; done) | (simp [*]; done)), H', ⟨by have := HK1.out; first | omega | exact Nat.le_refl _⟩, ⟨by (with_reducible repeat (first | apply Kd.R_alloc | apply Kd.R_drewN | apply Kd.R_drew)); exact HO_7.out⟩, ⟨by repeat ((with_reducible exact HI0.out))⟩, ⟨by repeat ((with_reducible exact HK.out))⟩, ⟨by repeat ((with_reducible exact HB.out))⟩⟩
     ·rw [if_neg c7] at H
      have c7b0 : (x1000_1.toList == ([] : List UInt8)) = false := beq_eq_false_iff_ne.mpr c7
      have c7b1 : (x1000_1.toList != ([] : List UInt8)) = true := bne_iff_ne.mpr c7
      (first | rw [c7b0] | (simp only [i64_w, i32_w]; rw [c7b0]) | skip)
      by_cases c9 : 0 < (x1000_1.size : Int)
      ·rw [if_pos c9] at H
       have c9b0 : decide (0 < (x1000_1.size : Int)) = true := decide_eq_true c9
       have c9b1 : decide (0 < x1000_1.size) = true := decide_eq_true (by omega)
       clear c9
       by_cases c11 : (bt x1000_1 0) = a1
       ·rw [if_pos c11] at H
        have c11b0 : ((bt x1000_1 0) == a1) = true := beq_iff_eq.mpr c11
        have c11b1 : ((bt x1000_1 0) != a1) = false := bne_eq_false_iff_eq.mpr c11
        clear c11
        have H' := Aside0.mk H
        clear H
        obtain ⟨HGz12, hgz12⟩ := HI0.out
        have hcz12_0 := cellS80_0 HGz12
        have hcz12_1 := cellS80_1 HGz12
        have hfz12_0 := blk_frozen HGz12 0
        have hfz12_1 := blk_frozen HGz12 1
        clear HGz12 hgz12
        have p10 : 0 ≤ (0 : Int) := (by omega)
        have q10 : 0 < x1000_1.size := (by have : (0 : Int) < (x1000_1.size : Int) := of_decide_eq_true (by first | (with_reducible assumption) | assumption); omega)
        have hx10 : ∀ h : 0 < x1000_1.size, ((x1000_1[0]'h).toNat : Int) = bt x1000_1 0 := bt_at x1000_1 0
        clear p10
        have qi10 : (0 < (x1000_1.size : Int)) = True := eq_true (of_decide_eq_true (by first | (with_reducible assumption) | assumption))
        replace q10 := eq_true q10
        go_wp2
        go_meet
        case rel => exact ⟨_, (false), (by first | rfl | (simp; done) | (simp [*]; done)), H', ⟨by have := HK1.out; first | omega | exact Nat.le_refl _⟩, ⟨by (with_reducible repeat (first | apply Kd.R_alloc | apply Kd.R_drewN | apply Kd.R_drew)); exact HO_7.out⟩, ⟨by repeat ((with_reducible exact HI0.out))⟩, ⟨by repeat ((with_reducible exact HK.out))⟩, ⟨by repeat ((with_reducible exact HB.out))⟩⟩
       ·rw [if_neg c11] at H
        have c11b0 : ((bt x1000_1 0) == a1) = false := beq_eq_false_iff_ne.mpr c11
        have c11b1 : ((bt x1000_1 0) != a1) = true := bne_iff_ne.mpr c11
        have H' := Aside0.mk H
        clear H
        obtain ⟨HGz13, hgz13⟩ := HI0.out
        have hcz13_0 := cellS80_0 HGz13
        have hcz13_1 := cellS80_1 HGz13
        have hfz13_0 := blk_frozen HGz13 0
        have hfz13_1 := blk_frozen HGz13 1
        clear HGz13 hgz13
        have p10 : 0 ≤ (0 : Int) := (by omega)
        have q10 : 0 < x1000_1.size := (by have : (0 : Int) < (x1000_1.size : Int) := of_decide_eq_true (by first | (with_reducible assumption) | assumption); omega)
        have hx10 : ∀ h : 0 < x1000_1.size, ((x1000_1[0]'h).toNat : Int) = bt x1000_1 0 := bt_at x1000_1 0
        clear p10
        have qi10 : (0 < (x1000_1.size : Int)) = True := eq_true (of_decide_eq_true (by first | (with_reducible assumption) | assumption))
        replace q10 := eq_true q10
        go_wp2
        go_meet
        case rel => exact ⟨_, (!x1001_1), (by first | rfl | (simp; done) | (simp [*]; done)), H', ⟨by have := HK1.out; first | omega | exact Nat.le_refl _⟩, ⟨by (with_reducible repeat (first | apply Kd.R_alloc | apply Kd.R_drewN | apply Kd.R_drew)); exact HO_7.out⟩, ⟨by repeat ((with_reducible exact HI0.out))⟩, ⟨by repeat ((with_reducible exact HK.out))⟩, ⟨by repeat ((with_reducible exact HB.out))⟩⟩
      ·rw [if_neg c9] at H
       exact absurd H (by simp)
    case rest =>
     clear HC6
     try clear c1
     try clear p1
     try clear q1
     try clear hx1
     try clear qi1
     try clear p2
     try clear c7
     try clear c7b0
     try clear c7b1
     try clear c9
     try clear c9b0
     try clear c9b1
     try clear p10
     try clear q10
     try clear hx10
     try clear qi10
     try clear c11
     try clear c11b0
     try clear c11b1
     try clear hcz12_0
     try clear hcz12_1
     try clear hcz13_0
     try clear hcz13_1
     try clear hcz8_0
     try clear hcz8_1
     try clear hfz12_0
     try clear hfz12_1
     try clear hfz13_0
     try clear hfz13_1
     try clear hfz8_0
     try clear hfz8_1
     try clear p10
     try clear p2
     try clear q10
     obtain ⟨kq, x31_5, rfl, HA, HJ5, HO_7, HI0, HK, HB⟩ := hcut
     cases kq with
     | zero => exact absurd HA.out (by simp [spec_reader_data.j1])
     | succ kj5 =>
       have H := HA.out
       clear HA
       simp only [spec_reader_data.j1] at H
       by_cases c14 : x31_5 = true
       ·subst c14
        have H1 : (if 0 < (x1000_1.size : Int) then ((spec_reader_take.f x1000_1 x1001_1 (⟨#[38]⟩ : ByteArray)).bind fun bt507 => (if bt507.1 = true then ((spec_reader_reference.f kj5 bt507.2.1 bt507.2.2).bind fun bt510 => (if x7_1.length + bt510.1.size < 140737488355328 then (spec_reader_data.l0 kj5 a1 a2 (x7_1 ++ bytesOf bt510.1) bt510.2.1 bt510.2.2) else (none))) else (if (bt x1000_1 0) = 60 then (spec_reader_data.j2 kj5 a1 a2 x7_1 (bt x1000_1 0) true bt507.2.1 bt507.2.2) else (if a2 = true then (spec_reader_data.j2 kj5 a1 a2 x7_1 (bt x1000_1 0) false bt507.2.1 bt507.2.2) else ((spec_Begins.f bt507.2.1 (⟨#[93, 93, 62]⟩ : ByteArray)).bind fun t516 => (spec_reader_data.j2 kj5 a1 a2 x7_1 (bt x1000_1 0) t516 bt507.2.1 bt507.2.2)))))) else (none)) = some (r1, r2, r3) := by rw [if_pos rfl] at H; exact H
        clear H
        have H := H1
        clear H1
        by_cases c15 : 0 < (x1000_1.size : Int)
        ·rw [if_pos c15] at H
         have c15b0 : decide (0 < (x1000_1.size : Int)) = true := decide_eq_true c15
         have c15b1 : decide (0 < x1000_1.size) = true := decide_eq_true (by omega)
         clear c15
         replace H := Option.bind_eq_some_iff.mp H
         obtain ⟨⟨t507, t508, t509⟩, A170, H⟩ := H
         replace H : (if t507 = true then ((spec_reader_reference.f kj5 t508 t509).bind fun bt510 => (if x7_1.length + bt510.1.size < 140737488355328 then (spec_reader_data.l0 kj5 a1 a2 (x7_1 ++ bytesOf bt510.1) bt510.2.1 bt510.2.2) else (none))) else (if (bt x1000_1 0) = 60 then (spec_reader_data.j2 kj5 a1 a2 x7_1 (bt x1000_1 0) true t508 t509) else (if a2 = true then (spec_reader_data.j2 kj5 a1 a2 x7_1 (bt x1000_1 0) false t508 t509) else ((spec_Begins.f t508 (⟨#[93, 93, 62]⟩ : ByteArray)).bind fun t516 => (spec_reader_data.j2 kj5 a1 a2 x7_1 (bt x1000_1 0) t516 t508 t509))))) = some (r1, r2, r3) := H
         have A17 := Aside0.mk A170
         clear A170
         by_cases c18 : t507 = true
         ·subst c18
          have H1 : ((spec_reader_reference.f kj5 t508 t509).bind fun bt510 => (if x7_1.length + bt510.1.size < 140737488355328 then (spec_reader_data.l0 kj5 a1 a2 (x7_1 ++ bytesOf bt510.1) bt510.2.1 bt510.2.2) else (none))) = some (r1, r2, r3) := by rw [if_pos rfl] at H; exact H
          clear H
          have H := H1
          clear H1
          replace H := Option.bind_eq_some_iff.mp H
          obtain ⟨⟨t510, t511, t512⟩, A190, H⟩ := H
          replace H : (if x7_1.length + t510.size < 140737488355328 then (spec_reader_data.l0 kj5 a1 a2 (x7_1 ++ bytesOf t510) t511 t512) else (none)) = some (r1, r2, r3) := H
          have A19 := Aside0.mk A190
          clear A190
          by_cases c20 : x7_1.length + t510.size < 140737488355328
          ·rw [if_pos c20] at H
           have LMc20 := Aside0.mk c20
           clear c20
           obtain ⟨y513, hy513⟩ : ∃ y_ : List Int, y_ = (x7_1 ++ bytesOf t510) := ⟨_, rfl⟩
           replace H : (spec_reader_data.l0 kj5 a1 a2 y513 t511 t512) = some (r1, r2, r3) := by (rw [hy513]; with_reducible exact H)
           have Ny513 := Aside0.mk hy513
           clear hy513
           have H' := Aside0.mk H
           clear H
           obtain ⟨HGz21, hgz21⟩ := HI0.out
           have hcz21_0 := cellS80_0 HGz21
           have hcz21_1 := cellS80_1 HGz21
           have hfz21_0 := blk_frozen HGz21 0
           have hfz21_1 := blk_frozen HGz21 1
           clear HGz21 hgz21
           have p16 : 0 ≤ (0 : Int) := (by omega)
           have q16 : 0 < x1000_1.size := (by have : (0 : Int) < (x1000_1.size : Int) := of_decide_eq_true (by first | (with_reducible assumption) | assumption); omega)
           have hx16 : ∀ h : 0 < x1000_1.size, ((x1000_1[0]'h).toNat : Int) = bt x1000_1 0 := bt_at x1000_1 0
           clear p16
           have qi16 : (0 < (x1000_1.size : Int)) = True := eq_true (of_decide_eq_true (by first | (with_reducible assumption) | assumption))
           replace q16 := eq_true q16
           go_wp2_with (first | ((with_reducible refine gate_callee (f := 149) rfl ?_); refine goesL_ (some 51) rfl rfl Tryz.func149 (by kernel_rfl) rfl #[.pointer (some ⟨g, 0, none⟩), .string (⟨#[38]⟩ : ByteArray)] rfl (by (try simp only [List.map_toArray, List.map_cons, List.map_nil]); rfl) ?_; (with_reducible refine (spec_reader_take.calls g x1000_1 x1001_1 (⟨#[38]⟩ : ByteArray) true t508 t509 w0 _ ?side1 ?side2 A17.out).mono ?_); (case side1 => repeat ((with_reducible exact HI0.out))); (case side2 => repeat ((with_reducible exact HB.out))); rintro e w22 ⟨rfl, hi, hb, hk⟩; refine ⟨_, rfl, ?_⟩; have n0_ := Aside0.mk (Kd.R_mono (Kd.R_keep (IsS80.apart (show IsS80 w0 _ g x1000_1 x1001_1 from by repeat ((with_reducible exact HI0.out))) (by (with_reducible repeat (first | apply Kd.R_alloc | apply Kd.R_drewN | apply Kd.R_drew)); exact HO_7.out) (by decide)) hk (fun _ h => h.2)) (fun _ h => h.1)); have n1_ := Aside0.mk (KeepBut.trans (by repeat ((with_reducible exact HK.out))) hk (.inl rfl)); have n2_ := Aside0.mk (hb); have n3_ := Aside0.mk (hi); clear HO_7; clear HK; clear HB; clear HI0; have HO_7 := n0_; have HK := n1_; have HB := n2_; have HI0 := n3_; clear n0_ n1_ n2_ n3_; (try clear hb); (try clear hb2); (try clear hk); (try clear hi)) | ((with_reducible refine gate_callee (f := 200) rfl ?_); refine goesL_ (some 54) rfl rfl Tryz.func200 (by kernel_rfl) rfl #[.pointer (some ⟨g, 0, none⟩)] rfl (by (try simp only [List.map_toArray, List.map_cons, List.map_nil]); rfl) ?_; (with_reducible refine (spec_reader_reference.calls kj5 g t508 t509 t510 t511 t512 w0 _ ?side1 ?side2 A19.out).mono ?_); (case side1 => repeat ((with_reducible exact HI0.out))); (case side2 => repeat ((with_reducible exact HB.out))); rintro e w23 ⟨rfl, hi, hb, hk⟩; refine ⟨_, rfl, ?_⟩; have n0_ := Aside0.mk (Kd.R_mono (Kd.R_keep (IsS80.apart (show IsS80 w0 _ g t508 t509 from by repeat ((with_reducible exact HI0.out))) (by (with_reducible repeat (first | apply Kd.R_alloc | apply Kd.R_drewN | apply Kd.R_drew)); exact HO_7.out) (by decide)) hk (fun _ h => h.2)) (fun _ h => h.1)); have n1_ := Aside0.mk (KeepBut.trans (by repeat ((with_reducible exact HK.out))) hk (.inl rfl)); have n2_ := Aside0.mk (hb); have n3_ := Aside0.mk (hi); clear HO_7; clear HK; clear HB; clear HI0; have HO_7 := n0_; have HK := n1_; have HB := n2_; have HI0 := n3_; clear n0_ n1_ n2_ n3_; (try clear hb); (try clear hb2); (try clear hk); (try clear hi)) | (at_builtin; refine print_append_str w.heap.size rfl (.tmp 52) _ 22 9 5 rfl Tryz.underlying22 Tryz.underlying9 info5 u7 x7_1 t510 rfl rfl ?aO (Below.refl _ _) ?aS ?aL ?_; (case aO => exact (Kd.own_of_R (by (with_reducible repeat (first | apply Kd.R_alloc | apply Kd.R_drewN | apply Kd.R_drew)); exact HO_7.out))); (case aS => exact (keep_size (w := w) (g := g) (row := none) (by repeat ((with_reducible exact HK.out))))); (case aL => have := LMc20.out; omega); intro v514 w24 ho0 hb hg; have ho := Kd.R_of_own (h1 := fun _ => rfl) (ok := fun _ => True) ho0 (fun _ _ => trivial); clear ho0; have hat := True.intro; rw [← Ny513.out] at ho; change Kd.R (Kd.int .u8) 5 w24 w.heap.size (fun _ => True) v514 y513 at ho; have n0_ := Aside0.mk (IsS80.grown (by repeat ((with_reducible exact HI0.out))) hg (IsS80.own_ne HI0.out HO_7.out (by decide))); have n1_ := Aside0.mk (below_weaken (by repeat ((with_reducible exact HB.out))) HL.out hb); have n2_ := Aside0.mk (KeepBut.trans (by repeat ((with_reducible exact HK.out))) (KeepBut.of_grown hg g) (Kd.R_base2 HO_7.out)); have n3_ := Aside0.mk (ho); clear HI0; clear HB; clear HK; clear HO_7; have HI0 := n0_; have HB := n1_; have HK := n2_; have HO515 := n3_; clear n0_ n1_ n2_ n3_; clear ho hb hg hat))
           go_roundg kj5
           case measure => have := HK1.out; have := HJ5.out; omega
           case rel => exact ⟨(y513), (t511), (t512), H', ⟨by have := HK1.out; have := HJ5.out; omega⟩, ⟨by (with_reducible repeat (first | apply Kd.R_alloc | apply Kd.R_drewN | apply Kd.R_drew)); exact HO515.out⟩, ⟨by repeat ((with_reducible exact HI0.out))⟩, ⟨by repeat ((with_reducible exact HK.out))⟩, ⟨by repeat ((with_reducible exact HB.out))⟩⟩
          ·rw [if_neg c20] at H
           exact absurd H (by simp)
         ·replace c18 := Bool.eq_false_iff.mpr c18
          subst c18
          have H1 : (if (bt x1000_1 0) = 60 then (spec_reader_data.j2 kj5 a1 a2 x7_1 (bt x1000_1 0) true t508 t509) else (if a2 = true then (spec_reader_data.j2 kj5 a1 a2 x7_1 (bt x1000_1 0) false t508 t509) else ((spec_Begins.f t508 (⟨#[93, 93, 62]⟩ : ByteArray)).bind fun t516 => (spec_reader_data.j2 kj5 a1 a2 x7_1 (bt x1000_1 0) t516 t508 t509)))) = some (r1, r2, r3) := by rw [if_neg (show ¬ (false = true) by decide)] at H; exact H
          clear H
          have H := H1
          clear H1
          have HC25 := Aside0.mk H
          clear H
          obtain ⟨HGz26, hgz26⟩ := HI0.out
          have hcz26_0 := cellS80_0 HGz26
          have hcz26_1 := cellS80_1 HGz26
          have hfz26_0 := blk_frozen HGz26 0
          have hfz26_1 := blk_frozen HGz26 1
          clear HGz26 hgz26
          have p16 : 0 ≤ (0 : Int) := (by omega)
          have q16 : 0 < x1000_1.size := (by have : (0 : Int) < (x1000_1.size : Int) := of_decide_eq_true (by first | (with_reducible assumption) | assumption); omega)
          have hx16 : ∀ h : 0 < x1000_1.size, ((x1000_1[0]'h).toNat : Int) = bt x1000_1 0 := bt_at x1000_1 0
          clear p16
          have qi16 : (0 < (x1000_1.size : Int)) = True := eq_true (of_decide_eq_true (by first | (with_reducible assumption) | assumption))
          replace q16 := eq_true q16
          go_upto_region 8 with (first | ((with_reducible refine gate_callee (f := 149) rfl ?_); refine goesL_ (some 51) rfl rfl Tryz.func149 (by kernel_rfl) rfl #[.pointer (some ⟨g, 0, none⟩), .string (⟨#[38]⟩ : ByteArray)] rfl (by (try simp only [List.map_toArray, List.map_cons, List.map_nil]); rfl) ?_; (with_reducible refine (spec_reader_take.calls g x1000_1 x1001_1 (⟨#[38]⟩ : ByteArray) false t508 t509 w0 _ ?side1 ?side2 A17.out).mono ?_); (case side1 => repeat ((with_reducible exact HI0.out))); (case side2 => repeat ((with_reducible exact HB.out))); rintro e w27 ⟨rfl, hi, hb, hk⟩; refine ⟨_, rfl, ?_⟩; have n0_ := Aside0.mk (Kd.R_mono (Kd.R_keep (IsS80.apart (show IsS80 w0 _ g x1000_1 x1001_1 from by repeat ((with_reducible exact HI0.out))) (by (with_reducible repeat (first | apply Kd.R_alloc | apply Kd.R_drewN | apply Kd.R_drew)); exact HO_7.out) (by decide)) hk (fun _ h => h.2)) (fun _ h => h.1)); have n1_ := Aside0.mk (KeepBut.trans (by repeat ((with_reducible exact HK.out))) hk (.inl rfl)); have n2_ := Aside0.mk (hb); have n3_ := Aside0.mk (hi); clear HO_7; clear HK; clear HB; clear HI0; have HO_7 := n0_; have HK := n1_; have HB := n2_; have HI0 := n3_; clear n0_ n1_ n2_ n3_; (try clear hb); (try clear hb2); (try clear hk); (try clear hi)))
          (skip)
          go_cut [56] (fun v56 wc => ∃ (kq : Nat) (x56_24 : Bool), v56 = .bool x56_24 ∧ Aside0 (spec_reader_data.j2 kq a1 a2 x7_1 (bt x1000_1 0) x56_24 t508 t509 = some (r1, r2, r3)) ∧ Aside0 (kq ≤ kj5) ∧ Aside0 (Kd.R (Kd.int .u8) 5 wc w.heap.size (fun _ => True) u7 x7_1) ∧ Aside0 (IsS80 w0 wc g t508 t509) ∧ Aside0 (KeepBut w wc g none) ∧ Aside0 (Below w0.heap.size w0 wc))
          case first =>
           have H := HC25.out
           clear HC25
           by_cases c28 : (bt x1000_1 0) = 60
           ·rw [if_pos c28] at H
            have c28b0 : ((bt x1000_1 0) == 60) = true := beq_iff_eq.mpr c28
            have c28b1 : ((bt x1000_1 0) != 60) = false := bne_eq_false_iff_eq.mpr c28
            clear c28
            (first | rw [c28b0] | (simp only [i64_w, i32_w]; rw [c28b0]) | skip)
            have H' := Aside0.mk H
            clear H
            go_wp2
            go_meet
            case rel => exact ⟨_, (true), (by first | rfl | (simp; done) | (simp [*]; done)), H', ⟨by have := HK1.out; have := HJ5.out; first | omega | exact Nat.le_refl _⟩, ⟨by (with_reducible repeat (first | apply Kd.R_alloc | apply Kd.R_drewN | apply Kd.R_drew)); exact HO_7.out⟩, ⟨by repeat ((with_reducible exact HI0.out))⟩, ⟨by repeat ((with_reducible exact HK.out))⟩, ⟨by repeat ((with_reducible exact HB.out))⟩⟩
           ·rw [if_neg c28] at H
            have c28b0 : ((bt x1000_1 0) == 60) = false := beq_eq_false_iff_ne.mpr c28
            have c28b1 : ((bt x1000_1 0) != 60) = true := bne_iff_ne.mpr c28
            (first | rw [c28b0] | (simp only [i64_w, i32_w]; rw [c28b0]) | skip)
            by_cases c29 : a2 = true
            ·subst c29
             have H1 : (spec_reader_data.j2 kj5 a1 true x7_1 (bt x1000_1 0) false t508 t509) = some (r1, r2, r3) := by rw [if_pos rfl] at H; exact H
             clear H
             have H := H1
             clear H1
             have H' := Aside0.mk H
             clear H
             go_wp2
             go_meet
             case rel => exact ⟨_, (false), (by first | rfl | (simp; done) | (simp [*]; done)), H', ⟨by have := HK1.out; have := HJ5.out; first | omega | exact Nat.le_refl _⟩, ⟨by (with_reducible repeat (first | apply Kd.R_alloc | apply Kd.R_drewN | apply Kd.R_drew)); exact HO_7.out⟩, ⟨by repeat ((with_reducible exact HI0.out))⟩, ⟨by repeat ((with_reducible exact HK.out))⟩, ⟨by repeat ((with_reducible exact HB.out))⟩⟩
            ·replace c29 := Bool.eq_false_iff.mpr c29
             subst c29
             have H1 : ((spec_Begins.f t508 (⟨#[93, 93, 62]⟩ : ByteArray)).bind fun t516 => (spec_reader_data.j2 kj5 a1 false x7_1 (bt x1000_1 0) t516 t508 t509)) = some (r1, r2, r3) := by rw [if_neg (show ¬ (false = true) by decide)] at H; exact H
             clear H
             have H := H1
             clear H1
             replace H := Option.bind_eq_some_iff.mp H
             obtain ⟨t516, A300, H⟩ := H
             replace H : (spec_reader_data.j2 kj5 a1 false x7_1 (bt x1000_1 0) t516 t508 t509) = some (r1, r2, r3) := H
             have A30 := Aside0.mk A300
             clear A300
             have H' := Aside0.mk H
             clear H
             obtain ⟨HGz31, hgz31⟩ := HI0.out
             have hcz31_0 := cellS80_0 HGz31
             have hcz31_1 := cellS80_1 HGz31
             have hfz31_0 := blk_frozen HGz31 0
             have hfz31_1 := blk_frozen HGz31 1
             clear HGz31 hgz31
             go_wp2_with (first | (go_at_call 58; (with_reducible refine (spec_Begins.calls t508 (⟨#[93, 93, 62]⟩ : ByteArray) t516 _ A30.out).mono ?_); rintro e w' ⟨rfl, ⟨nd, rfl⟩⟩))
             go_meet
             case rel => exact ⟨_, (t516), (by first | rfl | (simp; done) | (simp [*]; done)), H', ⟨by have := HK1.out; have := HJ5.out; first | omega | exact Nat.le_refl _⟩, ⟨by (with_reducible repeat (first | apply Kd.R_alloc | apply Kd.R_drewN | apply Kd.R_drew)); exact HO_7.out⟩, ⟨by repeat ((with_reducible first | exact HI0.out | apply IsS80.drewN ))⟩, ⟨by repeat ((with_reducible first | exact HK.out | apply keep_drewN ))⟩, ⟨by repeat ((with_reducible first | exact HB.out | apply pw_below_drewN ))⟩⟩
          case rest =>
           clear HC25
           try clear c1
           try clear p1
           try clear q1
           try clear hx1
           try clear qi1
           try clear c2
           try clear p2
           try clear c7
           try clear c7b0
           try clear c7b1
           try clear c9
           try clear c9b0
           try clear c9b1
           try clear p10
           try clear q10
           try clear hx10
           try clear qi10
           try clear c11
           try clear c11b0
           try clear c11b1
           try clear c14
           try clear c15
           try clear c15b0
           try clear c15b1
           try clear c16
           try clear p16
           try clear q16
           try clear hx16
           try clear qi16
           try clear c18
           try clear c20
           try clear c28
           try clear c28b0
           try clear c28b1
           try clear c29
           try clear hcz12_0
           try clear hcz12_1
           try clear hcz13_0
           try clear hcz13_1
           try clear hcz21_0
           try clear hcz21_1
           try clear hcz26_0
           try clear hcz26_1
           try clear hcz31_0
           try clear hcz31_1
           try clear hcz8_0
           try clear hcz8_1
           try clear hfz12_0
           try clear hfz12_1
           try clear hfz13_0
           try clear hfz13_1
           try clear hfz21_0
           try clear hfz21_1
           try clear hfz26_0
           try clear hfz26_1
           try clear hfz31_0
           try clear hfz31_1
           try clear hfz8_0
           try clear hfz8_1
           try clear p1
           try clear p10
           try clear p16
           try clear p2
           try clear q1
           try clear q10
           try clear q16
           obtain ⟨kq, x56_24, rfl, HA, HJ24, HO_7, HI0, HK, HB⟩ := hcut
           cases kq with
           | zero => exact absurd HA.out (by simp [spec_reader_data.j2])
           | succ kj24 =>
             have H := HA.out
             clear HA
             simp only [spec_reader_data.j2] at H
             by_cases c32 : x56_24 = true
             ·subst c32
              have H1 : (spec_reader_data.l0 kj24 a1 a2 x7_1 t508 true) = some (r1, r2, r3) := by rw [if_pos rfl] at H; exact H
              clear H
              have H := H1
              clear H1
              have H' := Aside0.mk H
              clear H
              obtain ⟨HGz33, hgz33⟩ := HI0.out
              have hcz33_0 := cellS80_0 HGz33
              have hcz33_1 := cellS80_1 HGz33
              have hfz33_0 := blk_frozen HGz33 0
              have hfz33_1 := blk_frozen HGz33 1
              clear HGz33 hgz33
              go_wp2
              go_roundg kj24
              case measure => have := HK1.out; have := HJ5.out; have := HJ24.out; omega
              case rel => exact ⟨(x7_1), (t508), (true), H', ⟨by have := HK1.out; have := HJ5.out; have := HJ24.out; omega⟩, ⟨by (with_reducible repeat (first | apply Kd.R_alloc | apply Kd.R_drewN | apply Kd.R_drew)); exact Kd.R_mono (Kd.R_far (p := ⟨g, 1, none⟩) (IsS80.apart HI0.out HO_7.out (by decide)) (fun _ hk => hk.2) (.bool true)) (fun _ hk => trivial)⟩, ⟨by repeat ((with_reducible first | exact HI0.out | apply IsS80.set_1))⟩, ⟨by repeat ((with_reducible first | exact HK.out | apply KeepBut.set_ ))⟩, ⟨by repeat ((with_reducible first | exact HB.out | refine below_set ?_ (IsS80.ge HI0.out)))⟩⟩
             ·replace c32 := Bool.eq_false_iff.mpr c32
              subst c32
              have H1 : ((spec_reader_take.f t508 t509 (⟨#[13, 10]⟩ : ByteArray)).bind fun bt517 => (if bt517.1 = true then (if x7_1.length < 140737488355328 then ((some (x7_1 ++ [10] : List Int)).bind fun y520 => (if a2 = true then (if 0 ≤ (wrap64 ((y520.length : Int) - 1)) then (if (wrap64 ((y520.length : Int) - 1)) < (y520.length : Int) then (if (rd y520 (wrap64 ((y520.length : Int) - 1))) = 10 then (none) else (if (rd y520 (wrap64 ((y520.length : Int) - 1))) = 9 then (none) else (spec_reader_data.l0 kj24 a1 a2 y520 bt517.2.1 bt517.2.2))) else (none)) else (none)) else (spec_reader_data.l0 kj24 a1 a2 y520 bt517.2.1 bt517.2.2))) else (none)) else (if (bt x1000_1 0) = 13 then (if x7_1.length < 140737488355328 then ((some (x7_1 ++ [10] : List Int)).bind fun y525 => (if 1 ≤ (bt517.2.1.size : Int) then (if a2 = true then (if 0 ≤ (wrap64 ((y525.length : Int) - 1)) then (if (wrap64 ((y525.length : Int) - 1)) < (y525.length : Int) then (if (rd y525 (wrap64 ((y525.length : Int) - 1))) = 10 then (none) else (if (rd y525 (wrap64 ((y525.length : Int) - 1))) = 9 then (none) else (spec_reader_data.l0 kj24 a1 a2 y525 (bt517.2.1.extract 1 bt517.2.1.size) bt517.2.2))) else (none)) else (none)) else (spec_reader_data.l0 kj24 a1 a2 y525 (bt517.2.1.extract 1 bt517.2.1.size) bt517.2.2)) else (none))) else (none)) else (if x7_1.length < 140737488355328 then ((some (x7_1 ++ [(bt x1000_1 0)] : List Int)).bind fun y530 => (if 1 ≤ (bt517.2.1.size : Int) then (if a2 = true then (if 0 ≤ (wrap64 ((y530.length : Int) - 1)) then (if (wrap64 ((y530.length : Int) - 1)) < (y530.length : Int) then (if (rd y530 (wrap64 ((y530.length : Int) - 1))) = 10 then (none) else (if (rd y530 (wrap64 ((y530.length : Int) - 1))) = 9 then (none) else (spec_reader_data.l0 kj24 a1 a2 y530 (bt517.2.1.extract 1 bt517.2.1.size) bt517.2.2))) else (none)) else (none)) else (spec_reader_data.l0 kj24 a1 a2 y530 (bt517.2.1.extract 1 bt517.2.1.size) bt517.2.2)) else (none))) else (none))))) = some (r1, r2, r3) := by rw [if_neg (show ¬ (false = true) by decide)] at H; exact H
              clear H
              have H := H1
              clear H1
              replace H := Option.bind_eq_some_iff.mp H
              obtain ⟨⟨t517, t518, t519⟩, A340, H⟩ := H
              replace H : (if t517 = true then (if x7_1.length < 140737488355328 then ((some (x7_1 ++ [10] : List Int)).bind fun y520 => (if a2 = true then (if 0 ≤ (wrap64 ((y520.length : Int) - 1)) then (if (wrap64 ((y520.length : Int) - 1)) < (y520.length : Int) then (if (rd y520 (wrap64 ((y520.length : Int) - 1))) = 10 then (none) else (if (rd y520 (wrap64 ((y520.length : Int) - 1))) = 9 then (none) else (spec_reader_data.l0 kj24 a1 a2 y520 t518 t519))) else (none)) else (none)) else (spec_reader_data.l0 kj24 a1 a2 y520 t518 t519))) else (none)) else (if (bt x1000_1 0) = 13 then (if x7_1.length < 140737488355328 then ((some (x7_1 ++ [10] : List Int)).bind fun y525 => (if 1 ≤ (t518.size : Int) then (if a2 = true then (if 0 ≤ (wrap64 ((y525.length : Int) - 1)) then (if (wrap64 ((y525.length : Int) - 1)) < (y525.length : Int) then (if (rd y525 (wrap64 ((y525.length : Int) - 1))) = 10 then (none) else (if (rd y525 (wrap64 ((y525.length : Int) - 1))) = 9 then (none) else (spec_reader_data.l0 kj24 a1 a2 y525 (t518.extract 1 t518.size) t519))) else (none)) else (none)) else (spec_reader_data.l0 kj24 a1 a2 y525 (t518.extract 1 t518.size) t519)) else (none))) else (none)) else (if x7_1.length < 140737488355328 then ((some (x7_1 ++ [(bt x1000_1 0)] : List Int)).bind fun y530 => (if 1 ≤ (t518.size : Int) then (if a2 = true then (if 0 ≤ (wrap64 ((y530.length : Int) - 1)) then (if (wrap64 ((y530.length : Int) - 1)) < (y530.length : Int) then (if (rd y530 (wrap64 ((y530.length : Int) - 1))) = 10 then (none) else (if (rd y530 (wrap64 ((y530.length : Int) - 1))) = 9 then (none) else (spec_reader_data.l0 kj24 a1 a2 y530 (t518.extract 1 t518.size) t519))) else (none)) else (none)) else (spec_reader_data.l0 kj24 a1 a2 y530 (t518.extract 1 t518.size) t519)) else (none))) else (none)))) = some (r1, r2, r3) := H
              have A34 := Aside0.mk A340
              clear A340
              by_cases c35 : t517 = true
              ·subst c35
               have H1 : (if x7_1.length < 140737488355328 then ((some (x7_1 ++ [10] : List Int)).bind fun y520 => (if a2 = true then (if 0 ≤ (wrap64 ((y520.length : Int) - 1)) then (if (wrap64 ((y520.length : Int) - 1)) < (y520.length : Int) then (if (rd y520 (wrap64 ((y520.length : Int) - 1))) = 10 then (none) else (if (rd y520 (wrap64 ((y520.length : Int) - 1))) = 9 then (none) else (spec_reader_data.l0 kj24 a1 a2 y520 t518 t519))) else (none)) else (none)) else (spec_reader_data.l0 kj24 a1 a2 y520 t518 t519))) else (none)) = some (r1, r2, r3) := by rw [if_pos rfl] at H; exact H
               clear H
               have H := H1
               clear H1
               by_cases c36 : x7_1.length < 140737488355328
               ·rw [if_pos c36] at H
                have LMc36 := Aside0.mk c36
                clear c36
                obtain ⟨y520, hy520⟩ : ∃ y_ : List Int, y_ = (x7_1 ++ [10]) := ⟨_, rfl⟩
                replace H : (if a2 = true then (if 0 ≤ (wrap64 ((y520.length : Int) - 1)) then (if (wrap64 ((y520.length : Int) - 1)) < (y520.length : Int) then (if (rd y520 (wrap64 ((y520.length : Int) - 1))) = 10 then (none) else (if (rd y520 (wrap64 ((y520.length : Int) - 1))) = 9 then (none) else (spec_reader_data.l0 kj24 a1 a2 y520 t518 t519))) else (none)) else (none)) else (spec_reader_data.l0 kj24 a1 a2 y520 t518 t519)) = some (r1, r2, r3) := by (have H2_ := (Option.bind_some _ _).symm.trans H; rw [hy520]; with_reducible exact H2_)
                have Ny520 := Aside0.mk hy520
                clear hy520
                by_cases c37 : a2 = true
                ·subst c37
                 have H1 : (if 0 ≤ (wrap64 ((y520.length : Int) - 1)) then (if (wrap64 ((y520.length : Int) - 1)) < (y520.length : Int) then (if (rd y520 (wrap64 ((y520.length : Int) - 1))) = 10 then (none) else (if (rd y520 (wrap64 ((y520.length : Int) - 1))) = 9 then (none) else (spec_reader_data.l0 kj24 a1 true y520 t518 t519))) else (none)) else (none)) = some (r1, r2, r3) := by rw [if_pos rfl] at H; exact H
                 clear H
                 have H := H1
                 clear H1
                 obtain ⟨ji38, hji38⟩ : ∃ j_ : Int, (wrap64 ((y520.length : Int) - 1)) = j_ := ⟨_, rfl⟩
                 replace H : (if 0 ≤ (ji38) then (if (ji38) < (y520.length : Int) then (if (rd y520 (ji38)) = 10 then (none) else (if (rd y520 (ji38)) = 9 then (none) else (spec_reader_data.l0 kj24 a1 true y520 t518 t519))) else (none)) else (none)) = some (r1, r2, r3) := by (rw [hji38] at H; exact H)
                 (try rw [hji38] at A34)
                 have hji38w : (IntKind.i64.wrap ((y520.length : Int) - 1)) = ji38 := (i64_w _).trans hji38
                 by_cases c39 : 0 ≤ (ji38)
                 ·rw [if_pos c39] at H
                  have c39b0 : decide (0 ≤ (ji38)) = true := decide_eq_true c39
                  clear c39
                  by_cases c40 : (ji38) < (y520.length : Int)
                  ·rw [if_pos c40] at H
                   have c40b0 : decide ((ji38) < (y520.length : Int)) = true := decide_eq_true c40
                   clear c40
                   by_cases c41 : (rd y520 (ji38)) = 10
                   ·rw [if_pos c41] at H
                    exact absurd H (by simp)
                   ·rw [if_neg c41] at H
                    have c41b0 : ((rd y520 (ji38)) == 10) = false := beq_eq_false_iff_ne.mpr c41
                    have c41b1 : ((rd y520 (ji38)) != 10) = true := bne_iff_ne.mpr c41
                    by_cases c42 : (rd y520 (ji38)) = 9
                    ·rw [if_pos c42] at H
                     exact absurd H (by simp)
                    ·rw [if_neg c42] at H
                     have c42b0 : ((rd y520 (ji38)) == 9) = false := beq_eq_false_iff_ne.mpr c42
                     have c42b1 : ((rd y520 (ji38)) != 9) = true := bne_iff_ne.mpr c42
                     have H' := Aside0.mk H
                     clear H
                     go_wp2_with (first | ((with_reducible refine gate_callee (f := 149) rfl ?_); refine goesL_ (some 75) rfl rfl Tryz.func149 (by kernel_rfl) rfl #[.pointer (some ⟨g, 0, none⟩), .string (⟨#[13, 10]⟩ : ByteArray)] rfl (by (try simp only [List.map_toArray, List.map_cons, List.map_nil]); rfl) ?_; (with_reducible refine (spec_reader_take.calls g t508 t509 (⟨#[13, 10]⟩ : ByteArray) true t518 t519 w0 _ ?side1 ?side2 A34.out).mono ?_); (case side1 => repeat ((with_reducible exact HI0.out))); (case side2 => repeat ((with_reducible exact HB.out))); rintro e w43 ⟨rfl, hi, hb, hk⟩; refine ⟨_, rfl, ?_⟩; have n0_ := Aside0.mk (Kd.R_mono (Kd.R_keep (IsS80.apart (show IsS80 w0 _ g t508 t509 from by repeat ((with_reducible exact HI0.out))) (by (with_reducible repeat (first | apply Kd.R_alloc | apply Kd.R_drewN | apply Kd.R_drew)); exact HO_7.out) (by decide)) hk (fun _ h => h.2)) (fun _ h => h.1)); have n1_ := Aside0.mk (KeepBut.trans (by repeat ((with_reducible exact HK.out))) hk (.inl rfl)); have n2_ := Aside0.mk (hb); have n3_ := Aside0.mk (hi); clear HO_7; clear HK; clear HB; clear HI0; have HO_7 := n0_; have HK := n1_; have HB := n2_; have HI0 := n3_; clear n0_ n1_ n2_ n3_; (try clear hb); (try clear hb2); (try clear hk); (try clear hi)) | ((with_reducible refine gate_builtin (b := .append) (xs := #[.tmp 76, .tmp 77]) rfl ?_); at_builtin; refine Kd.R_append (Kd.int .u8) w.heap.size rfl (.tmp 76) (.tmp 77) 22 5 (.int .u8 0) 1 rfl Tryz.underlying22 info5 rfl (by decide) (by omega) u7 x7_1 10 [.int .u8 10] (fun _ => True) (fun _ => False) rfl rfl ?aP (fun _ hk => hk.elim) ?aF ?aO (Below.refl _ _) ?aS ?aL ?_; (case aP => exact rfl); (case aF => exact (fun _ _ => trivial)); (case aO => exact (by (with_reducible repeat (first | apply Kd.R_alloc | apply Kd.R_drewN | apply Kd.R_drew)); exact HO_7.out)); (case aS => exact (keep_size (w := w) (g := g) (row := none) (by repeat ((with_reducible exact HK.out))))); (case aL => have := LMc36.out; omega); intro v521 w44 ho hb hg hat; rw [← Ny520.out] at ho; have n0_ := Aside0.mk (IsS80.grown (by repeat ((with_reducible exact HI0.out))) hg (IsS80.own_ne HI0.out HO_7.out (by decide))); have n1_ := Aside0.mk (below_weaken (by repeat ((with_reducible exact HB.out))) HL.out hb); have n2_ := Aside0.mk (KeepBut.trans (by repeat ((with_reducible exact HK.out))) (KeepBut.of_grown hg g) (Kd.R_base2 HO_7.out)); have n3_ := Aside0.mk (ho); clear HI0; clear HB; clear HK; clear HO_7; have HI0 := n0_; have HB := n1_; have HK := n2_; have HO522 := n3_; clear n0_ n1_ n2_ n3_; clear ho hb hg hat; obtain ⟨Ao45, co45, eo45⟩ := Kd.R_slice HO522.out; subst eo45; have p523 : 0 ≤ ((ji38) : Int) := of_decide_eq_true (by first | (with_reducible assumption) | assumption); have q523 : (ji38) < (y520.length : Int) := of_decide_eq_true (by first | (with_reducible assumption) | assumption); obtain ⟨ad523, e523, hx523_0⟩ := Kd.at_int (Kd.R_reads' HO522.out).2.2 (ji38) p523 q523; cases e523; replace p523 := eq_true p523; replace q523 := eq_true q523; have p524 : 0 ≤ ((ji38) : Int) := of_decide_eq_true (by first | (with_reducible assumption) | assumption); have q524 : (ji38) < (y520.length : Int) := of_decide_eq_true (by first | (with_reducible assumption) | assumption); obtain ⟨ad524, e524, hx524_0⟩ := Kd.at_int (Kd.R_reads' HO522.out).2.2 (ji38) p524 q524; obtain rfl : ad523 = ad524 := (by injection e524); replace p524 := eq_true p524; replace q524 := eq_true q524))
                     go_roundg kj24
                     case measure => have := HK1.out; have := HJ5.out; have := HJ24.out; omega
                     case rel => exact ⟨(y520), (t518), (t519), H', ⟨by have := HK1.out; have := HJ5.out; have := HJ24.out; omega⟩, ⟨by (with_reducible repeat (first | apply Kd.R_alloc | apply Kd.R_drewN | apply Kd.R_drew)); exact HO522.out⟩, ⟨by repeat ((with_reducible exact HI0.out))⟩, ⟨by repeat ((with_reducible exact HK.out))⟩, ⟨by repeat ((with_reducible exact HB.out))⟩⟩
                  ·rw [if_neg c40] at H
                   exact absurd H (by simp)
                 ·rw [if_neg c39] at H
                  exact absurd H (by simp)
                ·replace c37 := Bool.eq_false_iff.mpr c37
                 subst c37
                 have H1 : (spec_reader_data.l0 kj24 a1 false y520 t518 t519) = some (r1, r2, r3) := by rw [if_neg (show ¬ (false = true) by decide)] at H; exact H
                 clear H
                 have H := H1
                 clear H1
                 have H' := Aside0.mk H
                 clear H
                 go_wp2_with (first | ((with_reducible refine gate_callee (f := 149) rfl ?_); refine goesL_ (some 75) rfl rfl Tryz.func149 (by kernel_rfl) rfl #[.pointer (some ⟨g, 0, none⟩), .string (⟨#[13, 10]⟩ : ByteArray)] rfl (by (try simp only [List.map_toArray, List.map_cons, List.map_nil]); rfl) ?_; (with_reducible refine (spec_reader_take.calls g t508 t509 (⟨#[13, 10]⟩ : ByteArray) true t518 t519 w0 _ ?side1 ?side2 A34.out).mono ?_); (case side1 => repeat ((with_reducible exact HI0.out))); (case side2 => repeat ((with_reducible exact HB.out))); rintro e w46 ⟨rfl, hi, hb, hk⟩; refine ⟨_, rfl, ?_⟩; have n0_ := Aside0.mk (Kd.R_mono (Kd.R_keep (IsS80.apart (show IsS80 w0 _ g t508 t509 from by repeat ((with_reducible exact HI0.out))) (by (with_reducible repeat (first | apply Kd.R_alloc | apply Kd.R_drewN | apply Kd.R_drew)); exact HO_7.out) (by decide)) hk (fun _ h => h.2)) (fun _ h => h.1)); have n1_ := Aside0.mk (KeepBut.trans (by repeat ((with_reducible exact HK.out))) hk (.inl rfl)); have n2_ := Aside0.mk (hb); have n3_ := Aside0.mk (hi); clear HO_7; clear HK; clear HB; clear HI0; have HO_7 := n0_; have HK := n1_; have HB := n2_; have HI0 := n3_; clear n0_ n1_ n2_ n3_; (try clear hb); (try clear hb2); (try clear hk); (try clear hi)) | ((with_reducible refine gate_builtin (b := .append) (xs := #[.tmp 76, .tmp 77]) rfl ?_); at_builtin; refine Kd.R_append (Kd.int .u8) w.heap.size rfl (.tmp 76) (.tmp 77) 22 5 (.int .u8 0) 1 rfl Tryz.underlying22 info5 rfl (by decide) (by omega) u7 x7_1 10 [.int .u8 10] (fun _ => True) (fun _ => False) rfl rfl ?aP (fun _ hk => hk.elim) ?aF ?aO (Below.refl _ _) ?aS ?aL ?_; (case aP => exact rfl); (case aF => exact (fun _ _ => trivial)); (case aO => exact (by (with_reducible repeat (first | apply Kd.R_alloc | apply Kd.R_drewN | apply Kd.R_drew)); exact HO_7.out)); (case aS => exact (keep_size (w := w) (g := g) (row := none) (by repeat ((with_reducible exact HK.out))))); (case aL => have := LMc36.out; omega); intro v521 w47 ho hb hg hat; rw [← Ny520.out] at ho; have n0_ := Aside0.mk (IsS80.grown (by repeat ((with_reducible exact HI0.out))) hg (IsS80.own_ne HI0.out HO_7.out (by decide))); have n1_ := Aside0.mk (below_weaken (by repeat ((with_reducible exact HB.out))) HL.out hb); have n2_ := Aside0.mk (KeepBut.trans (by repeat ((with_reducible exact HK.out))) (KeepBut.of_grown hg g) (Kd.R_base2 HO_7.out)); have n3_ := Aside0.mk (ho); clear HI0; clear HB; clear HK; clear HO_7; have HI0 := n0_; have HB := n1_; have HK := n2_; have HO522 := n3_; clear n0_ n1_ n2_ n3_; clear ho hb hg hat; obtain ⟨Ao48, co48, eo48⟩ := Kd.R_slice HO522.out; subst eo48))
                 go_roundg kj24
                 case measure => have := HK1.out; have := HJ5.out; have := HJ24.out; omega
                 case rel => exact ⟨(y520), (t518), (t519), H', ⟨by have := HK1.out; have := HJ5.out; have := HJ24.out; omega⟩, ⟨by (with_reducible repeat (first | apply Kd.R_alloc | apply Kd.R_drewN | apply Kd.R_drew)); exact HO522.out⟩, ⟨by repeat ((with_reducible exact HI0.out))⟩, ⟨by repeat ((with_reducible exact HK.out))⟩, ⟨by repeat ((with_reducible exact HB.out))⟩⟩
               ·rw [if_neg c36] at H
                exact absurd H (by simp)
              ·replace c35 := Bool.eq_false_iff.mpr c35
               subst c35
               have H1 : (if (bt x1000_1 0) = 13 then (if x7_1.length < 140737488355328 then ((some (x7_1 ++ [10] : List Int)).bind fun y525 => (if 1 ≤ (t518.size : Int) then (if a2 = true then (if 0 ≤ (wrap64 ((y525.length : Int) - 1)) then (if (wrap64 ((y525.length : Int) - 1)) < (y525.length : Int) then (if (rd y525 (wrap64 ((y525.length : Int) - 1))) = 10 then (none) else (if (rd y525 (wrap64 ((y525.length : Int) - 1))) = 9 then (none) else (spec_reader_data.l0 kj24 a1 a2 y525 (t518.extract 1 t518.size) t519))) else (none)) else (none)) else (spec_reader_data.l0 kj24 a1 a2 y525 (t518.extract 1 t518.size) t519)) else (none))) else (none)) else (if x7_1.length < 140737488355328 then ((some (x7_1 ++ [(bt x1000_1 0)] : List Int)).bind fun y530 => (if 1 ≤ (t518.size : Int) then (if a2 = true then (if 0 ≤ (wrap64 ((y530.length : Int) - 1)) then (if (wrap64 ((y530.length : Int) - 1)) < (y530.length : Int) then (if (rd y530 (wrap64 ((y530.length : Int) - 1))) = 10 then (none) else (if (rd y530 (wrap64 ((y530.length : Int) - 1))) = 9 then (none) else (spec_reader_data.l0 kj24 a1 a2 y530 (t518.extract 1 t518.size) t519))) else (none)) else (none)) else (spec_reader_data.l0 kj24 a1 a2 y530 (t518.extract 1 t518.size) t519)) else (none))) else (none))) = some (r1, r2, r3) := by rw [if_neg (show ¬ (false = true) by decide)] at H; exact H
               clear H
               have H := H1
               clear H1
               by_cases c49 : (bt x1000_1 0) = 13
               ·rw [if_pos c49] at H
                have c49b0 : ((bt x1000_1 0) == 13) = true := beq_iff_eq.mpr c49
                have c49b1 : ((bt x1000_1 0) != 13) = false := bne_eq_false_iff_eq.mpr c49
                clear c49
                by_cases c50 : x7_1.length < 140737488355328
                ·rw [if_pos c50] at H
                 have LMc50 := Aside0.mk c50
                 clear c50
                 obtain ⟨y525, hy525⟩ : ∃ y_ : List Int, y_ = (x7_1 ++ [10]) := ⟨_, rfl⟩
                 replace H : (if 1 ≤ (t518.size : Int) then (if a2 = true then (if 0 ≤ (wrap64 ((y525.length : Int) - 1)) then (if (wrap64 ((y525.length : Int) - 1)) < (y525.length : Int) then (if (rd y525 (wrap64 ((y525.length : Int) - 1))) = 10 then (none) else (if (rd y525 (wrap64 ((y525.length : Int) - 1))) = 9 then (none) else (spec_reader_data.l0 kj24 a1 a2 y525 (t518.extract 1 t518.size) t519))) else (none)) else (none)) else (spec_reader_data.l0 kj24 a1 a2 y525 (t518.extract 1 t518.size) t519)) else (none)) = some (r1, r2, r3) := by (have H2_ := (Option.bind_some _ _).symm.trans H; rw [hy525]; with_reducible exact H2_)
                 have Ny525 := Aside0.mk hy525
                 clear hy525
                 by_cases c51 : 1 ≤ (t518.size : Int)
                 ·rw [if_pos c51] at H
                  have c51b0 := eq_true c51
                  have c51b1 : decide (1 ≤ (t518.size : Int)) = true := decide_eq_true c51
                  clear c51
                  by_cases c52 : a2 = true
                  ·subst c52
                   have H1 : (if 0 ≤ (wrap64 ((y525.length : Int) - 1)) then (if (wrap64 ((y525.length : Int) - 1)) < (y525.length : Int) then (if (rd y525 (wrap64 ((y525.length : Int) - 1))) = 10 then (none) else (if (rd y525 (wrap64 ((y525.length : Int) - 1))) = 9 then (none) else (spec_reader_data.l0 kj24 a1 true y525 (t518.extract 1 t518.size) t519))) else (none)) else (none)) = some (r1, r2, r3) := by rw [if_pos rfl] at H; exact H
                   clear H
                   have H := H1
                   clear H1
                   obtain ⟨ji53, hji53⟩ : ∃ j_ : Int, (wrap64 ((y525.length : Int) - 1)) = j_ := ⟨_, rfl⟩
                   replace H : (if 0 ≤ (ji53) then (if (ji53) < (y525.length : Int) then (if (rd y525 (ji53)) = 10 then (none) else (if (rd y525 (ji53)) = 9 then (none) else (spec_reader_data.l0 kj24 a1 true y525 (t518.extract 1 t518.size) t519))) else (none)) else (none)) = some (r1, r2, r3) := by (rw [hji53] at H; exact H)
                   (try rw [hji53] at A34)
                   have hji53w : (IntKind.i64.wrap ((y525.length : Int) - 1)) = ji53 := (i64_w _).trans hji53
                   by_cases c54 : 0 ≤ (ji53)
                   ·rw [if_pos c54] at H
                    have c54b0 : decide (0 ≤ (ji53)) = true := decide_eq_true c54
                    clear c54
                    by_cases c55 : (ji53) < (y525.length : Int)
                    ·rw [if_pos c55] at H
                     have c55b0 : decide ((ji53) < (y525.length : Int)) = true := decide_eq_true c55
                     clear c55
                     by_cases c56 : (rd y525 (ji53)) = 10
                     ·rw [if_pos c56] at H
                      exact absurd H (by simp)
                     ·rw [if_neg c56] at H
                      have c56b0 : ((rd y525 (ji53)) == 10) = false := beq_eq_false_iff_ne.mpr c56
                      have c56b1 : ((rd y525 (ji53)) != 10) = true := bne_iff_ne.mpr c56
                      by_cases c57 : (rd y525 (ji53)) = 9
                      ·rw [if_pos c57] at H
                       exact absurd H (by simp)
                      ·rw [if_neg c57] at H
                       have c57b0 : ((rd y525 (ji53)) == 9) = false := beq_eq_false_iff_ne.mpr c57
                       have c57b1 : ((rd y525 (ji53)) != 9) = true := bne_iff_ne.mpr c57
                       have H' := Aside0.mk H
                       clear H
                       go_wp2_with (first | ((with_reducible refine gate_callee (f := 149) rfl ?_); refine goesL_ (some 75) rfl rfl Tryz.func149 (by kernel_rfl) rfl #[.pointer (some ⟨g, 0, none⟩), .string (⟨#[13, 10]⟩ : ByteArray)] rfl (by (try simp only [List.map_toArray, List.map_cons, List.map_nil]); rfl) ?_; (with_reducible refine (spec_reader_take.calls g t508 t509 (⟨#[13, 10]⟩ : ByteArray) false t518 t519 w0 _ ?side1 ?side2 A34.out).mono ?_); (case side1 => repeat ((with_reducible exact HI0.out))); (case side2 => repeat ((with_reducible exact HB.out))); rintro e w58 ⟨rfl, hi, hb, hk⟩; refine ⟨_, rfl, ?_⟩; have n0_ := Aside0.mk (Kd.R_mono (Kd.R_keep (IsS80.apart (show IsS80 w0 _ g t508 t509 from by repeat ((with_reducible exact HI0.out))) (by (with_reducible repeat (first | apply Kd.R_alloc | apply Kd.R_drewN | apply Kd.R_drew)); exact HO_7.out) (by decide)) hk (fun _ h => h.2)) (fun _ h => h.1)); have n1_ := Aside0.mk (KeepBut.trans (by repeat ((with_reducible exact HK.out))) hk (.inl rfl)); have n2_ := Aside0.mk (hb); have n3_ := Aside0.mk (hi); clear HO_7; clear HK; clear HB; clear HI0; have HO_7 := n0_; have HK := n1_; have HB := n2_; have HI0 := n3_; clear n0_ n1_ n2_ n3_; (try clear hb); (try clear hb2); (try clear hk); (try clear hi)) | ((with_reducible refine gate_builtin (b := .append) (xs := #[.tmp 82, .tmp 83]) rfl ?_); at_builtin; refine Kd.R_append (Kd.int .u8) w.heap.size rfl (.tmp 82) (.tmp 83) 22 5 (.int .u8 0) 1 rfl Tryz.underlying22 info5 rfl (by decide) (by omega) u7 x7_1 10 [.int .u8 10] (fun _ => True) (fun _ => False) rfl rfl ?aP (fun _ hk => hk.elim) ?aF ?aO (Below.refl _ _) ?aS ?aL ?_; (case aP => exact rfl); (case aF => exact (fun _ _ => trivial)); (case aO => exact (by (with_reducible repeat (first | apply Kd.R_alloc | apply Kd.R_drewN | apply Kd.R_drew)); exact HO_7.out)); (case aS => exact (keep_size (w := w) (g := g) (row := none) (by repeat ((with_reducible exact HK.out))))); (case aL => have := LMc50.out; omega); intro v526 w59 ho hb hg hat; rw [← Ny525.out] at ho; have n0_ := Aside0.mk (IsS80.grown (by repeat ((with_reducible exact HI0.out))) hg (IsS80.own_ne HI0.out HO_7.out (by decide))); have n1_ := Aside0.mk (below_weaken (by repeat ((with_reducible exact HB.out))) HL.out hb); have n2_ := Aside0.mk (KeepBut.trans (by repeat ((with_reducible exact HK.out))) (KeepBut.of_grown hg g) (Kd.R_base2 HO_7.out)); have n3_ := Aside0.mk (ho); clear HI0; clear HB; clear HK; clear HO_7; have HI0 := n0_; have HB := n1_; have HK := n2_; have HO527 := n3_; clear n0_ n1_ n2_ n3_; clear ho hb hg hat; obtain ⟨HGz60, hgz60⟩ := HI0.out; have hcz60_0 := cellS80_0 HGz60; have hcz60_1 := cellS80_1 HGz60; have hfz60_0 := blk_frozen HGz60 0; have hfz60_1 := blk_frozen HGz60 1; clear HGz60 hgz60; obtain ⟨Ao61, co61, eo61⟩ := Kd.R_slice HO527.out; subst eo61; have p528 : 0 ≤ ((ji53) : Int) := of_decide_eq_true (by first | (with_reducible assumption) | assumption); have q528 : (ji53) < (y525.length : Int) := of_decide_eq_true (by first | (with_reducible assumption) | assumption); obtain ⟨ad528, e528, hx528_0⟩ := Kd.at_int (Kd.R_reads' HO527.out).2.2 (ji53) p528 q528; cases e528; have hn528_0 : ad528.block ≠ g := Kd.own_blk (IsS80.own_ne HI0.out HO527.out (by decide)); replace hx528_0 := (cell_far (p := ⟨g, 0, none⟩) (by (rw [add_block]; exact hn528_0)) (.string (t518.extract 1 t518.size))).trans hx528_0; clear hn528_0; replace p528 := eq_true p528; replace q528 := eq_true q528; have p529 : 0 ≤ ((ji53) : Int) := of_decide_eq_true (by first | (with_reducible assumption) | assumption); have q529 : (ji53) < (y525.length : Int) := of_decide_eq_true (by first | (with_reducible assumption) | assumption); obtain ⟨ad529, e529, hx529_0⟩ := Kd.at_int (Kd.R_reads' HO527.out).2.2 (ji53) p529 q529; obtain rfl : ad528 = ad529 := (by injection e529); have hn529_0 : ad528.block ≠ g := Kd.own_blk (IsS80.own_ne HI0.out HO527.out (by decide)); replace hx529_0 := (cell_far (p := ⟨g, 0, none⟩) (by (rw [add_block]; exact hn529_0)) (.string (t518.extract 1 t518.size))).trans hx529_0; clear hn529_0; replace p529 := eq_true p529; replace q529 := eq_true q529))
                       go_roundg kj24
                       case measure => have := HK1.out; have := HJ5.out; have := HJ24.out; omega
                       case rel => exact ⟨(y525), (t518.extract 1 t518.size), (t519), H', ⟨by have := HK1.out; have := HJ5.out; have := HJ24.out; omega⟩, ⟨by (with_reducible repeat (first | apply Kd.R_alloc | apply Kd.R_drewN | apply Kd.R_drew)); exact Kd.R_mono (Kd.R_far (p := ⟨g, 0, none⟩) (IsS80.apart HI0.out HO527.out (by decide)) (fun _ hk => hk.2) (.string (t518.extract 1 t518.size))) (fun _ hk => trivial)⟩, ⟨by repeat ((with_reducible first | exact HI0.out | apply IsS80.set_0 ))⟩, ⟨by repeat ((with_reducible first | exact HK.out | apply KeepBut.set_ ))⟩, ⟨by repeat ((with_reducible first | exact HB.out | refine below_set ?_ (IsS80.ge HI0.out)))⟩⟩
                    ·rw [if_neg c55] at H
                     exact absurd H (by simp)
                   ·rw [if_neg c54] at H
                    exact absurd H (by simp)
                  ·replace c52 := Bool.eq_false_iff.mpr c52
                   subst c52
                   have H1 : (spec_reader_data.l0 kj24 a1 false y525 (t518.extract 1 t518.size) t519) = some (r1, r2, r3) := by rw [if_neg (show ¬ (false = true) by decide)] at H; exact H
                   clear H
                   have H := H1
                   clear H1
                   have H' := Aside0.mk H
                   clear H
                   go_wp2_with (first | ((with_reducible refine gate_callee (f := 149) rfl ?_); refine goesL_ (some 75) rfl rfl Tryz.func149 (by kernel_rfl) rfl #[.pointer (some ⟨g, 0, none⟩), .string (⟨#[13, 10]⟩ : ByteArray)] rfl (by (try simp only [List.map_toArray, List.map_cons, List.map_nil]); rfl) ?_; (with_reducible refine (spec_reader_take.calls g t508 t509 (⟨#[13, 10]⟩ : ByteArray) false t518 t519 w0 _ ?side1 ?side2 A34.out).mono ?_); (case side1 => repeat ((with_reducible exact HI0.out))); (case side2 => repeat ((with_reducible exact HB.out))); rintro e w62 ⟨rfl, hi, hb, hk⟩; refine ⟨_, rfl, ?_⟩; have n0_ := Aside0.mk (Kd.R_mono (Kd.R_keep (IsS80.apart (show IsS80 w0 _ g t508 t509 from by repeat ((with_reducible exact HI0.out))) (by (with_reducible repeat (first | apply Kd.R_alloc | apply Kd.R_drewN | apply Kd.R_drew)); exact HO_7.out) (by decide)) hk (fun _ h => h.2)) (fun _ h => h.1)); have n1_ := Aside0.mk (KeepBut.trans (by repeat ((with_reducible exact HK.out))) hk (.inl rfl)); have n2_ := Aside0.mk (hb); have n3_ := Aside0.mk (hi); clear HO_7; clear HK; clear HB; clear HI0; have HO_7 := n0_; have HK := n1_; have HB := n2_; have HI0 := n3_; clear n0_ n1_ n2_ n3_; (try clear hb); (try clear hb2); (try clear hk); (try clear hi)) | ((with_reducible refine gate_builtin (b := .append) (xs := #[.tmp 82, .tmp 83]) rfl ?_); at_builtin; refine Kd.R_append (Kd.int .u8) w.heap.size rfl (.tmp 82) (.tmp 83) 22 5 (.int .u8 0) 1 rfl Tryz.underlying22 info5 rfl (by decide) (by omega) u7 x7_1 10 [.int .u8 10] (fun _ => True) (fun _ => False) rfl rfl ?aP (fun _ hk => hk.elim) ?aF ?aO (Below.refl _ _) ?aS ?aL ?_; (case aP => exact rfl); (case aF => exact (fun _ _ => trivial)); (case aO => exact (by (with_reducible repeat (first | apply Kd.R_alloc | apply Kd.R_drewN | apply Kd.R_drew)); exact HO_7.out)); (case aS => exact (keep_size (w := w) (g := g) (row := none) (by repeat ((with_reducible exact HK.out))))); (case aL => have := LMc50.out; omega); intro v526 w63 ho hb hg hat; rw [← Ny525.out] at ho; have n0_ := Aside0.mk (IsS80.grown (by repeat ((with_reducible exact HI0.out))) hg (IsS80.own_ne HI0.out HO_7.out (by decide))); have n1_ := Aside0.mk (below_weaken (by repeat ((with_reducible exact HB.out))) HL.out hb); have n2_ := Aside0.mk (KeepBut.trans (by repeat ((with_reducible exact HK.out))) (KeepBut.of_grown hg g) (Kd.R_base2 HO_7.out)); have n3_ := Aside0.mk (ho); clear HI0; clear HB; clear HK; clear HO_7; have HI0 := n0_; have HB := n1_; have HK := n2_; have HO527 := n3_; clear n0_ n1_ n2_ n3_; clear ho hb hg hat; obtain ⟨HGz64, hgz64⟩ := HI0.out; have hcz64_0 := cellS80_0 HGz64; have hcz64_1 := cellS80_1 HGz64; have hfz64_0 := blk_frozen HGz64 0; have hfz64_1 := blk_frozen HGz64 1; clear HGz64 hgz64; obtain ⟨Ao65, co65, eo65⟩ := Kd.R_slice HO527.out; subst eo65))
                   go_roundg kj24
                   case measure => have := HK1.out; have := HJ5.out; have := HJ24.out; omega
                   case rel => exact ⟨(y525), (t518.extract 1 t518.size), (t519), H', ⟨by have := HK1.out; have := HJ5.out; have := HJ24.out; omega⟩, ⟨by (with_reducible repeat (first | apply Kd.R_alloc | apply Kd.R_drewN | apply Kd.R_drew)); exact Kd.R_mono (Kd.R_far (p := ⟨g, 0, none⟩) (IsS80.apart HI0.out HO527.out (by decide)) (fun _ hk => hk.2) (.string (t518.extract 1 t518.size))) (fun _ hk => trivial)⟩, ⟨by repeat ((with_reducible first | exact HI0.out | apply IsS80.set_0 ))⟩, ⟨by repeat ((with_reducible first | exact HK.out | apply KeepBut.set_ ))⟩, ⟨by repeat ((with_reducible first | exact HB.out | refine below_set ?_ (IsS80.ge HI0.out)))⟩⟩
                 ·rw [if_neg c51] at H
                  exact absurd H (by simp)
                ·rw [if_neg c50] at H
                 exact absurd H (by simp)
               ·rw [if_neg c49] at H
                have c49b0 : ((bt x1000_1 0) == 13) = false := beq_eq_false_iff_ne.mpr c49
                have c49b1 : ((bt x1000_1 0) != 13) = true := bne_iff_ne.mpr c49
                by_cases c66 : x7_1.length < 140737488355328
                ·rw [if_pos c66] at H
                 have LMc66 := Aside0.mk c66
                 clear c66
                 obtain ⟨y530, hy530⟩ : ∃ y_ : List Int, y_ = (x7_1 ++ [(bt x1000_1 0)]) := ⟨_, rfl⟩
                 replace H : (if 1 ≤ (t518.size : Int) then (if a2 = true then (if 0 ≤ (wrap64 ((y530.length : Int) - 1)) then (if (wrap64 ((y530.length : Int) - 1)) < (y530.length : Int) then (if (rd y530 (wrap64 ((y530.length : Int) - 1))) = 10 then (none) else (if (rd y530 (wrap64 ((y530.length : Int) - 1))) = 9 then (none) else (spec_reader_data.l0 kj24 a1 a2 y530 (t518.extract 1 t518.size) t519))) else (none)) else (none)) else (spec_reader_data.l0 kj24 a1 a2 y530 (t518.extract 1 t518.size) t519)) else (none)) = some (r1, r2, r3) := by (have H2_ := (Option.bind_some _ _).symm.trans H; rw [hy530]; with_reducible exact H2_)
                 have Ny530 := Aside0.mk hy530
                 clear hy530
                 by_cases c67 : 1 ≤ (t518.size : Int)
                 ·rw [if_pos c67] at H
                  have c67b0 := eq_true c67
                  have c67b1 : decide (1 ≤ (t518.size : Int)) = true := decide_eq_true c67
                  clear c67
                  by_cases c68 : a2 = true
                  ·subst c68
                   have H1 : (if 0 ≤ (wrap64 ((y530.length : Int) - 1)) then (if (wrap64 ((y530.length : Int) - 1)) < (y530.length : Int) then (if (rd y530 (wrap64 ((y530.length : Int) - 1))) = 10 then (none) else (if (rd y530 (wrap64 ((y530.length : Int) - 1))) = 9 then (none) else (spec_reader_data.l0 kj24 a1 true y530 (t518.extract 1 t518.size) t519))) else (none)) else (none)) = some (r1, r2, r3) := by rw [if_pos rfl] at H; exact H
                   clear H
                   have H := H1
                   clear H1
                   obtain ⟨ji69, hji69⟩ : ∃ j_ : Int, (wrap64 ((y530.length : Int) - 1)) = j_ := ⟨_, rfl⟩
                   replace H : (if 0 ≤ (ji69) then (if (ji69) < (y530.length : Int) then (if (rd y530 (ji69)) = 10 then (none) else (if (rd y530 (ji69)) = 9 then (none) else (spec_reader_data.l0 kj24 a1 true y530 (t518.extract 1 t518.size) t519))) else (none)) else (none)) = some (r1, r2, r3) := by (rw [hji69] at H; exact H)
                   (try rw [hji69] at A34)
                   have hji69w : (IntKind.i64.wrap ((y530.length : Int) - 1)) = ji69 := (i64_w _).trans hji69
                   by_cases c70 : 0 ≤ (ji69)
                   ·rw [if_pos c70] at H
                    have c70b0 : decide (0 ≤ (ji69)) = true := decide_eq_true c70
                    clear c70
                    by_cases c71 : (ji69) < (y530.length : Int)
                    ·rw [if_pos c71] at H
                     have c71b0 : decide ((ji69) < (y530.length : Int)) = true := decide_eq_true c71
                     clear c71
                     by_cases c72 : (rd y530 (ji69)) = 10
                     ·rw [if_pos c72] at H
                      exact absurd H (by simp)
                     ·rw [if_neg c72] at H
                      have c72b0 : ((rd y530 (ji69)) == 10) = false := beq_eq_false_iff_ne.mpr c72
                      have c72b1 : ((rd y530 (ji69)) != 10) = true := bne_iff_ne.mpr c72
                      by_cases c73 : (rd y530 (ji69)) = 9
                      ·rw [if_pos c73] at H
                       exact absurd H (by simp)
                      ·rw [if_neg c73] at H
                       have c73b0 : ((rd y530 (ji69)) == 9) = false := beq_eq_false_iff_ne.mpr c73
                       have c73b1 : ((rd y530 (ji69)) != 9) = true := bne_iff_ne.mpr c73
                       have H' := Aside0.mk H
                       clear H
                       go_wp2_with (first | ((with_reducible refine gate_callee (f := 149) rfl ?_); refine goesL_ (some 75) rfl rfl Tryz.func149 (by kernel_rfl) rfl #[.pointer (some ⟨g, 0, none⟩), .string (⟨#[13, 10]⟩ : ByteArray)] rfl (by (try simp only [List.map_toArray, List.map_cons, List.map_nil]); rfl) ?_; (with_reducible refine (spec_reader_take.calls g t508 t509 (⟨#[13, 10]⟩ : ByteArray) false t518 t519 w0 _ ?side1 ?side2 A34.out).mono ?_); (case side1 => repeat ((with_reducible exact HI0.out))); (case side2 => repeat ((with_reducible exact HB.out))); rintro e w74 ⟨rfl, hi, hb, hk⟩; refine ⟨_, rfl, ?_⟩; have n0_ := Aside0.mk (Kd.R_mono (Kd.R_keep (IsS80.apart (show IsS80 w0 _ g t508 t509 from by repeat ((with_reducible exact HI0.out))) (by (with_reducible repeat (first | apply Kd.R_alloc | apply Kd.R_drewN | apply Kd.R_drew)); exact HO_7.out) (by decide)) hk (fun _ h => h.2)) (fun _ h => h.1)); have n1_ := Aside0.mk (KeepBut.trans (by repeat ((with_reducible exact HK.out))) hk (.inl rfl)); have n2_ := Aside0.mk (hb); have n3_ := Aside0.mk (hi); clear HO_7; clear HK; clear HB; clear HI0; have HO_7 := n0_; have HK := n1_; have HB := n2_; have HI0 := n3_; clear n0_ n1_ n2_ n3_; (try clear hb); (try clear hb2); (try clear hk); (try clear hi)) | ((with_reducible refine gate_builtin (b := .append) (xs := #[.tmp 37, .tmp 39]) rfl ?_); at_builtin; refine Kd.R_append (Kd.int .u8) w.heap.size rfl (.tmp 37) (.tmp 39) 22 5 (.int .u8 0) 1 rfl Tryz.underlying22 info5 rfl (by decide) (by omega) u7 x7_1 (bt x1000_1 0) [.int .u8 (bt x1000_1 0)] (fun _ => True) (fun _ => False) rfl rfl ?aP (fun _ hk => hk.elim) ?aF ?aO (Below.refl _ _) ?aS ?aL ?_; (case aP => exact rfl); (case aF => exact (fun _ _ => trivial)); (case aO => exact (by (with_reducible repeat (first | apply Kd.R_alloc | apply Kd.R_drewN | apply Kd.R_drew)); exact HO_7.out)); (case aS => exact (keep_size (w := w) (g := g) (row := none) (by repeat ((with_reducible exact HK.out))))); (case aL => have := LMc66.out; omega); intro v531 w75 ho hb hg hat; rw [← Ny530.out] at ho; have n0_ := Aside0.mk (IsS80.grown (by repeat ((with_reducible exact HI0.out))) hg (IsS80.own_ne HI0.out HO_7.out (by decide))); have n1_ := Aside0.mk (below_weaken (by repeat ((with_reducible exact HB.out))) HL.out hb); have n2_ := Aside0.mk (KeepBut.trans (by repeat ((with_reducible exact HK.out))) (KeepBut.of_grown hg g) (Kd.R_base2 HO_7.out)); have n3_ := Aside0.mk (ho); clear HI0; clear HB; clear HK; clear HO_7; have HI0 := n0_; have HB := n1_; have HK := n2_; have HO532 := n3_; clear n0_ n1_ n2_ n3_; clear ho hb hg hat; obtain ⟨HGz76, hgz76⟩ := HI0.out; have hcz76_0 := cellS80_0 HGz76; have hcz76_1 := cellS80_1 HGz76; have hfz76_0 := blk_frozen HGz76 0; have hfz76_1 := blk_frozen HGz76 1; clear HGz76 hgz76; obtain ⟨Ao77, co77, eo77⟩ := Kd.R_slice HO532.out; subst eo77; have p533 : 0 ≤ ((ji69) : Int) := of_decide_eq_true (by first | (with_reducible assumption) | assumption); have q533 : (ji69) < (y530.length : Int) := of_decide_eq_true (by first | (with_reducible assumption) | assumption); obtain ⟨ad533, e533, hx533_0⟩ := Kd.at_int (Kd.R_reads' HO532.out).2.2 (ji69) p533 q533; cases e533; have hn533_0 : ad533.block ≠ g := Kd.own_blk (IsS80.own_ne HI0.out HO532.out (by decide)); replace hx533_0 := (cell_far (p := ⟨g, 0, none⟩) (by (rw [add_block]; exact hn533_0)) (.string (t518.extract 1 t518.size))).trans hx533_0; clear hn533_0; replace p533 := eq_true p533; replace q533 := eq_true q533; have p534 : 0 ≤ ((ji69) : Int) := of_decide_eq_true (by first | (with_reducible assumption) | assumption); have q534 : (ji69) < (y530.length : Int) := of_decide_eq_true (by first | (with_reducible assumption) | assumption); obtain ⟨ad534, e534, hx534_0⟩ := Kd.at_int (Kd.R_reads' HO532.out).2.2 (ji69) p534 q534; obtain rfl : ad533 = ad534 := (by injection e534); have hn534_0 : ad533.block ≠ g := Kd.own_blk (IsS80.own_ne HI0.out HO532.out (by decide)); replace hx534_0 := (cell_far (p := ⟨g, 0, none⟩) (by (rw [add_block]; exact hn534_0)) (.string (t518.extract 1 t518.size))).trans hx534_0; clear hn534_0; replace p534 := eq_true p534; replace q534 := eq_true q534))
                       go_roundg kj24
                       case measure => have := HK1.out; have := HJ5.out; have := HJ24.out; omega
                       case rel => exact ⟨(y530), (t518.extract 1 t518.size), (t519), H', ⟨by have := HK1.out; have := HJ5.out; have := HJ24.out; omega⟩, ⟨by (with_reducible repeat (first | apply Kd.R_alloc | apply Kd.R_drewN | apply Kd.R_drew)); exact Kd.R_mono (Kd.R_far (p := ⟨g, 0, none⟩) (IsS80.apart HI0.out HO532.out (by decide)) (fun _ hk => hk.2) (.string (t518.extract 1 t518.size))) (fun _ hk => trivial)⟩, ⟨by repeat ((with_reducible first | exact HI0.out | apply IsS80.set_0 ))⟩, ⟨by repeat ((with_reducible first | exact HK.out | apply KeepBut.set_ ))⟩, ⟨by repeat ((with_reducible first | exact HB.out | refine below_set ?_ (IsS80.ge HI0.out)))⟩⟩
                    ·rw [if_neg c71] at H
                     exact absurd H (by simp)
                   ·rw [if_neg c70] at H
                    exact absurd H (by simp)
                  ·replace c68 := Bool.eq_false_iff.mpr c68
                   subst c68
                   have H1 : (spec_reader_data.l0 kj24 a1 false y530 (t518.extract 1 t518.size) t519) = some (r1, r2, r3) := by rw [if_neg (show ¬ (false = true) by decide)] at H; exact H
                   clear H
                   have H := H1
                   clear H1
                   have H' := Aside0.mk H
                   clear H
                   go_wp2_with (first | ((with_reducible refine gate_callee (f := 149) rfl ?_); refine goesL_ (some 75) rfl rfl Tryz.func149 (by kernel_rfl) rfl #[.pointer (some ⟨g, 0, none⟩), .string (⟨#[13, 10]⟩ : ByteArray)] rfl (by (try simp only [List.map_toArray, List.map_cons, List.map_nil]); rfl) ?_; (with_reducible refine (spec_reader_take.calls g t508 t509 (⟨#[13, 10]⟩ : ByteArray) false t518 t519 w0 _ ?side1 ?side2 A34.out).mono ?_); (case side1 => repeat ((with_reducible exact HI0.out))); (case side2 => repeat ((with_reducible exact HB.out))); rintro e w78 ⟨rfl, hi, hb, hk⟩; refine ⟨_, rfl, ?_⟩; have n0_ := Aside0.mk (Kd.R_mono (Kd.R_keep (IsS80.apart (show IsS80 w0 _ g t508 t509 from by repeat ((with_reducible exact HI0.out))) (by (with_reducible repeat (first | apply Kd.R_alloc | apply Kd.R_drewN | apply Kd.R_drew)); exact HO_7.out) (by decide)) hk (fun _ h => h.2)) (fun _ h => h.1)); have n1_ := Aside0.mk (KeepBut.trans (by repeat ((with_reducible exact HK.out))) hk (.inl rfl)); have n2_ := Aside0.mk (hb); have n3_ := Aside0.mk (hi); clear HO_7; clear HK; clear HB; clear HI0; have HO_7 := n0_; have HK := n1_; have HB := n2_; have HI0 := n3_; clear n0_ n1_ n2_ n3_; (try clear hb); (try clear hb2); (try clear hk); (try clear hi)) | ((with_reducible refine gate_builtin (b := .append) (xs := #[.tmp 37, .tmp 39]) rfl ?_); at_builtin; refine Kd.R_append (Kd.int .u8) w.heap.size rfl (.tmp 37) (.tmp 39) 22 5 (.int .u8 0) 1 rfl Tryz.underlying22 info5 rfl (by decide) (by omega) u7 x7_1 (bt x1000_1 0) [.int .u8 (bt x1000_1 0)] (fun _ => True) (fun _ => False) rfl rfl ?aP (fun _ hk => hk.elim) ?aF ?aO (Below.refl _ _) ?aS ?aL ?_; (case aP => exact rfl); (case aF => exact (fun _ _ => trivial)); (case aO => exact (by (with_reducible repeat (first | apply Kd.R_alloc | apply Kd.R_drewN | apply Kd.R_drew)); exact HO_7.out)); (case aS => exact (keep_size (w := w) (g := g) (row := none) (by repeat ((with_reducible exact HK.out))))); (case aL => have := LMc66.out; omega); intro v531 w79 ho hb hg hat; rw [← Ny530.out] at ho; have n0_ := Aside0.mk (IsS80.grown (by repeat ((with_reducible exact HI0.out))) hg (IsS80.own_ne HI0.out HO_7.out (by decide))); have n1_ := Aside0.mk (below_weaken (by repeat ((with_reducible exact HB.out))) HL.out hb); have n2_ := Aside0.mk (KeepBut.trans (by repeat ((with_reducible exact HK.out))) (KeepBut.of_grown hg g) (Kd.R_base2 HO_7.out)); have n3_ := Aside0.mk (ho); clear HI0; clear HB; clear HK; clear HO_7; have HI0 := n0_; have HB := n1_; have HK := n2_; have HO532 := n3_; clear n0_ n1_ n2_ n3_; clear ho hb hg hat; obtain ⟨HGz80, hgz80⟩ := HI0.out; have hcz80_0 := cellS80_0 HGz80; have hcz80_1 := cellS80_1 HGz80; have hfz80_0 := blk_frozen HGz80 0; have hfz80_1 := blk_frozen HGz80 1; clear HGz80 hgz80; obtain ⟨Ao81, co81, eo81⟩ := Kd.R_slice HO532.out; subst eo81))
                   go_roundg kj24
                   case measure => have := HK1.out; have := HJ5.out; have := HJ24.out; omega
                   case rel => exact ⟨(y530), (t518.extract 1 t518.size), (t519), H', ⟨by have := HK1.out; have := HJ5.out; have := HJ24.out; omega⟩, ⟨by (with_reducible repeat (first | apply Kd.R_alloc | apply Kd.R_drewN | apply Kd.R_drew)); exact Kd.R_mono (Kd.R_far (p := ⟨g, 0, none⟩) (IsS80.apart HI0.out HO532.out (by decide)) (fun _ hk => hk.2) (.string (t518.extract 1 t518.size))) (fun _ hk => trivial)⟩, ⟨by repeat ((with_reducible first | exact HI0.out | apply IsS80.set_0 ))⟩, ⟨by repeat ((with_reducible first | exact HK.out | apply KeepBut.set_ ))⟩, ⟨by repeat ((with_reducible first | exact HB.out | refine below_set ?_ (IsS80.ge HI0.out)))⟩⟩
                 ·rw [if_neg c67] at H
                  exact absurd H (by simp)
                ·rw [if_neg c66] at H
                 exact absurd H (by simp)
        ·rw [if_neg c15] at H
         exact absurd H (by simp)
       ·replace c14 := Bool.eq_false_iff.mpr c14
        subst c14
        have H1 : (some (strOfNums x7_1, x1000_1, x1001_1)) = some (r1, r2, r3) := by rw [if_neg (show ¬ (false = true) by decide)] at H; exact H
        clear H
        have H := H1
        clear H1
        simp only [Option.some.injEq, Prod.mk.injEq] at H
        obtain ⟨rfl, rfl, rfl⟩ := H
        have hcv82 := own_string (P := Tryz.prog) Tryz.underlying22 Tryz.underlying5 Tryz.underlying9 (Kd.own_of_R HO_7.out)
        go_wp2
        go_ret
        exact ⟨by rfl, by repeat ((with_reducible exact HI0.out)), by repeat ((with_reducible exact HB.out)), by repeat ((with_reducible exact HK.out))⟩

end Go.Proofs.YtkihaebaccdjdaaGreatDoor.PX
