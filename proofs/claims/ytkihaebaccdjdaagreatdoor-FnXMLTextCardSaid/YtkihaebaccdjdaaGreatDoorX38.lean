import Derived.Test.YtkihaebaccdjdaaGreatDoorX5
import Derived.Test.YtkihaebaccdjdaaGreatDoorX29
import Derived.Test.YtkihaebaccdjdaaGreatDoorX31
import Derived.Test.YtkihaebaccdjdaaGreatDoorX28
import Derived.Test.YtkihaebaccdjdaaGreatDoorX37
namespace Go.Proofs.YtkihaebaccdjdaaGreatDoor.PX
open Go.RowKit Go.Proofs.YtkihaebaccdjdaaGreatDoorW.PrintWords Go.Proofs.YtkihaebaccdjdaaGreatDoorW.PrintLast Go.Proofs.YtkihaebaccdjdaaGreatDoorW.PrintMore
attribute [local go_sem] max2_int min2_int max_two min_two max_three min_three max_four min_four   -- for this text's walks alone
set_option linter.unusedVariables false
set_option linter.unusedSimpArgs false

/-! ### spec_reader_reference: function 200 -/
mutual
def spec_reader_reference.j0 : Nat → ByteArray → Int → Int → Bool → ByteArray → Bool → Option (ByteArray × ByteArray × Bool)
 | 0, _, _, _, _, _, _ => none
 | k + 1, x3, x6, x7, x47, x1000, x1001 => if x47 = true then (some ((⟨#[]⟩ : ByteArray), x1000, true)) else (if 1 ≤ (x3.size : Int) then (if 0 < ((x3.extract 1 x3.size).size : Int) then (if (bt (x3.extract 1 x3.size) 0) = 120 then (if 1 ≤ ((x3.extract 1 x3.size).size : Int) then (spec_reader_reference.j1 k ((x3.extract 1 x3.size).extract 1 (x3.extract 1 x3.size).size) x6 16 x1000 x1001) else (none)) else (spec_reader_reference.j1 k (x3.extract 1 x3.size) x6 x7 x1000 x1001)) else (none)) else (none))
def spec_reader_reference.j1 : Nat → ByteArray → Int → Int → ByteArray → Bool → Option (ByteArray × ByteArray × Bool)
 | 0, _, _, _, _, _ => none
 | k + 1, x3, x6, x7, x1000, x1001 => spec_reader_reference.l0 k x3 x6 x7 (x3.size : Int) 0 x1000 x1001
def spec_reader_reference.l0 : Nat → ByteArray → Int → Int → Int → Int → ByteArray → Bool → Option (ByteArray × ByteArray × Bool)
 | 0, _, _, _, _, _, _, _ => none
 | k + 1, x3, x6, x7, x59, x60, x1000, x1001 => if x60 < x59 then (if 0 ≤ x60 then (if x60 < (x3.size : Int) then ((spec_digit.f k (bt x3 x60)).bind fun bt500 => (if bt500.2 = true then (if (wrap32 (bt500.1)) ≥ x7 then (some ((⟨#[]⟩ : ByteArray), x1000, true)) else (if x6 > 1114111 then (some ((⟨#[]⟩ : ByteArray), x1000, true)) else (spec_reader_reference.l0 k x3 (wrap32 ((wrap32 (x6 * x7)) + (wrap32 (bt500.1)))) x7 x59 (wrap64 (x60 + 1)) x1000 x1001))) else (some ((⟨#[]⟩ : ByteArray), x1000, true)))) else (none)) else (none)) else (if x3.toList = ([] : List UInt8) then (some ((⟨#[]⟩ : ByteArray), x1000, true)) else ((spec_isChar.f x6).bind fun t502 => (if t502 = true then (if x6 > 1114111 then (some ((⟨#[]⟩ : ByteArray), x1000, true)) else ((spec_utf8.f x6).bind fun t503 => (some (t503, x1000, x1001)))) else (some ((⟨#[]⟩ : ByteArray), x1000, true)))))
end
def spec_reader_reference.f (k : Nat) (s0_0 : ByteArray) (s0_1 : Bool) : Option (ByteArray × ByteArray × Bool) := (spec_cut.f k s0_0 59).bind fun bt497 => (if bt497.2.2 = true then (if bt497.1.toList = ([108, 116] : List UInt8) then (some ((⟨#[60]⟩ : ByteArray), bt497.2.1, s0_1)) else (if bt497.1.toList = ([103, 116] : List UInt8) then (some ((⟨#[62]⟩ : ByteArray), bt497.2.1, s0_1)) else (if bt497.1.toList = ([97, 109, 112] : List UInt8) then (some ((⟨#[38]⟩ : ByteArray), bt497.2.1, s0_1)) else (if bt497.1.toList = ([113, 117, 111, 116] : List UInt8) then (some ((⟨#[34]⟩ : ByteArray), bt497.2.1, s0_1)) else (if bt497.1.toList = ([97, 112, 111, 115] : List UInt8) then (some ((⟨#[39]⟩ : ByteArray), bt497.2.1, s0_1)) else (if (bt497.1.size : Int) < 2 then (spec_reader_reference.j0 k bt497.1 0 10 true bt497.2.1 s0_1) else (if 0 < (bt497.1.size : Int) then (spec_reader_reference.j0 k bt497.1 0 10 ((bt bt497.1 0) != 35) bt497.2.1 s0_1) else (none)))))))) else (some ((⟨#[]⟩ : ByteArray), s0_0, true)))
set_option maxHeartbeats 8000000 in
set_option maxRecDepth 100000 in
theorem spec_reader_reference.calls (k : Nat) (g : Nat) (s0_0 : ByteArray) (s0_1 : Bool) (r1 : ByteArray) (r2 : ByteArray) (r3 : Bool) (w0 w : World) (hI : IsS80 w0 w g s0_0 s0_1) (hB : Below w0.heap.size w0 w) (h : spec_reader_reference.f k s0_0 s0_1 = some (r1, r2, r3)) :
 Calls Tryz.prog 200 #[.pointer (some ⟨g, 0, none⟩)] w fun e w' => e = .returned (.string r1) ∧ IsS80 w0 w' g r2 r3 ∧ Below w0.heap.size w0 w' ∧ KeepBut w w' g none := by
 have HI0 := Aside0.mk hI
 have HK := Aside0.mk (KeepBut.refl w g none)
 have HL := Aside0.mk hB.size
 clear hI
 have HW0 := Aside0.mk hB.size
 have HB := Aside0.mk hB
 clear hB
 have H : ((spec_cut.f k s0_0 59).bind fun bt497 => (if bt497.2.2 = true then (if bt497.1.toList = ([108, 116] : List UInt8) then (some ((⟨#[60]⟩ : ByteArray), bt497.2.1, s0_1)) else (if bt497.1.toList = ([103, 116] : List UInt8) then (some ((⟨#[62]⟩ : ByteArray), bt497.2.1, s0_1)) else (if bt497.1.toList = ([97, 109, 112] : List UInt8) then (some ((⟨#[38]⟩ : ByteArray), bt497.2.1, s0_1)) else (if bt497.1.toList = ([113, 117, 111, 116] : List UInt8) then (some ((⟨#[34]⟩ : ByteArray), bt497.2.1, s0_1)) else (if bt497.1.toList = ([97, 112, 111, 115] : List UInt8) then (some ((⟨#[39]⟩ : ByteArray), bt497.2.1, s0_1)) else (if (bt497.1.size : Int) < 2 then (spec_reader_reference.j0 k bt497.1 0 10 true bt497.2.1 s0_1) else (if 0 < (bt497.1.size : Int) then (spec_reader_reference.j0 k bt497.1 0 10 ((bt bt497.1 0) != 35) bt497.2.1 s0_1) else (none)))))))) else (some ((⟨#[]⟩ : ByteArray), s0_0, true)))) = some (r1, r2, r3) := h
 clear h
 replace H := Option.bind_eq_some_iff.mp H
 obtain ⟨⟨t497, t498, t499⟩, A20, H⟩ := H
 replace H : (if t499 = true then (if t497.toList = ([108, 116] : List UInt8) then (some ((⟨#[60]⟩ : ByteArray), t498, s0_1)) else (if t497.toList = ([103, 116] : List UInt8) then (some ((⟨#[62]⟩ : ByteArray), t498, s0_1)) else (if t497.toList = ([97, 109, 112] : List UInt8) then (some ((⟨#[38]⟩ : ByteArray), t498, s0_1)) else (if t497.toList = ([113, 117, 111, 116] : List UInt8) then (some ((⟨#[34]⟩ : ByteArray), t498, s0_1)) else (if t497.toList = ([97, 112, 111, 115] : List UInt8) then (some ((⟨#[39]⟩ : ByteArray), t498, s0_1)) else (if (t497.size : Int) < 2 then (spec_reader_reference.j0 k t497 0 10 true t498 s0_1) else (if 0 < (t497.size : Int) then (spec_reader_reference.j0 k t497 0 10 ((bt t497 0) != 35) t498 s0_1) else (none)))))))) else (some ((⟨#[]⟩ : ByteArray), s0_0, true))) = some (r1, r2, r3) := H
 have A2 := Aside0.mk A20
 clear A20
 by_cases c3 : t499 = true
 ·subst c3
  have H1 : (if t497.toList = ([108, 116] : List UInt8) then (some ((⟨#[60]⟩ : ByteArray), t498, s0_1)) else (if t497.toList = ([103, 116] : List UInt8) then (some ((⟨#[62]⟩ : ByteArray), t498, s0_1)) else (if t497.toList = ([97, 109, 112] : List UInt8) then (some ((⟨#[38]⟩ : ByteArray), t498, s0_1)) else (if t497.toList = ([113, 117, 111, 116] : List UInt8) then (some ((⟨#[34]⟩ : ByteArray), t498, s0_1)) else (if t497.toList = ([97, 112, 111, 115] : List UInt8) then (some ((⟨#[39]⟩ : ByteArray), t498, s0_1)) else (if (t497.size : Int) < 2 then (spec_reader_reference.j0 k t497 0 10 true t498 s0_1) else (if 0 < (t497.size : Int) then (spec_reader_reference.j0 k t497 0 10 ((bt t497 0) != 35) t498 s0_1) else (none)))))))) = some (r1, r2, r3) := by rw [if_pos rfl] at H; exact H
  clear H
  have H := H1
  clear H1
  by_cases c4 : t497.toList = ([108, 116] : List UInt8)
  ·rw [if_pos c4] at H
   have c4b0 : (t497.toList == ([108, 116] : List UInt8)) = true := beq_iff_eq.mpr c4
   have c4b1 : (t497.toList != ([108, 116] : List UInt8)) = false := bne_eq_false_iff_eq.mpr c4
   clear c4
   simp only [Option.some.injEq, Prod.mk.injEq] at H
   obtain ⟨rfl, rfl, rfl⟩ := H
   obtain ⟨HGz5, hgz5⟩ := HI0.out
   have hcz5_0 := cellS80_0 HGz5
   have hcz5_1 := cellS80_1 HGz5
   have hfz5_0 := blk_frozen HGz5 0
   have hfz5_1 := blk_frozen HGz5 1
   clear HGz5 hgz5
   go_enter Tryz.func200, Tryz.ntmps200
   go_wp2_with (first | (go_at_call 32; (with_reducible refine (spec_cut.calls k s0_0 59 t497 t498 true _ A2.out).mono ?_); rintro e w' ⟨rfl, ⟨nd, rfl⟩⟩; (skip)))
   repeat (go_quiet (first | (go_at_call 32; (with_reducible refine (spec_cut.calls k s0_0 59 t497 t498 true _ A2.out).mono ?_); rintro e w' ⟨rfl, ⟨nd, rfl⟩⟩; (skip))); try go_wp2_with (first | (go_at_call 32; (with_reducible refine (spec_cut.calls k s0_0 59 t497 t498 true _ A2.out).mono ?_); rintro e w' ⟨rfl, ⟨nd, rfl⟩⟩; (skip))))
   go_ret
   exact ⟨by rfl, by repeat ((with_reducible first | exact HI0.out | apply IsS80.drewN | apply IsS80.set_0 )), by repeat ((with_reducible first | exact HB.out | apply pw_below_drewN | refine below_set ?_ (IsS80.ge HI0.out))), by repeat ((with_reducible first | exact HK.out | apply KeepBut.set_ | apply keep_drewN ))⟩
  ·rw [if_neg c4] at H
   have c4b0 : (t497.toList == ([108, 116] : List UInt8)) = false := beq_eq_false_iff_ne.mpr c4
   have c4b1 : (t497.toList != ([108, 116] : List UInt8)) = true := bne_iff_ne.mpr c4
   by_cases c6 : t497.toList = ([103, 116] : List UInt8)
   ·rw [if_pos c6] at H
    have c6b0 : (t497.toList == ([103, 116] : List UInt8)) = true := beq_iff_eq.mpr c6
    have c6b1 : (t497.toList != ([103, 116] : List UInt8)) = false := bne_eq_false_iff_eq.mpr c6
    clear c6
    simp only [Option.some.injEq, Prod.mk.injEq] at H
    obtain ⟨rfl, rfl, rfl⟩ := H
    obtain ⟨HGz7, hgz7⟩ := HI0.out
    have hcz7_0 := cellS80_0 HGz7
    have hcz7_1 := cellS80_1 HGz7
    have hfz7_0 := blk_frozen HGz7 0
    have hfz7_1 := blk_frozen HGz7 1
    clear HGz7 hgz7
    go_enter Tryz.func200, Tryz.ntmps200
    go_wp2_with (first | (go_at_call 32; (with_reducible refine (spec_cut.calls k s0_0 59 t497 t498 true _ A2.out).mono ?_); rintro e w' ⟨rfl, ⟨nd, rfl⟩⟩; (skip)))
    repeat (go_quiet (first | (go_at_call 32; (with_reducible refine (spec_cut.calls k s0_0 59 t497 t498 true _ A2.out).mono ?_); rintro e w' ⟨rfl, ⟨nd, rfl⟩⟩; (skip))); try go_wp2_with (first | (go_at_call 32; (with_reducible refine (spec_cut.calls k s0_0 59 t497 t498 true _ A2.out).mono ?_); rintro e w' ⟨rfl, ⟨nd, rfl⟩⟩; (skip))))
    go_ret
    exact ⟨by rfl, by repeat ((with_reducible first | exact HI0.out | apply IsS80.drewN | apply IsS80.set_0 )), by repeat ((with_reducible first | exact HB.out | apply pw_below_drewN | refine below_set ?_ (IsS80.ge HI0.out))), by repeat ((with_reducible first | exact HK.out | apply KeepBut.set_ | apply keep_drewN ))⟩
   ·rw [if_neg c6] at H
    have c6b0 : (t497.toList == ([103, 116] : List UInt8)) = false := beq_eq_false_iff_ne.mpr c6
    have c6b1 : (t497.toList != ([103, 116] : List UInt8)) = true := bne_iff_ne.mpr c6
    by_cases c8 : t497.toList = ([97, 109, 112] : List UInt8)
    ·rw [if_pos c8] at H
     have c8b0 : (t497.toList == ([97, 109, 112] : List UInt8)) = true := beq_iff_eq.mpr c8
     have c8b1 : (t497.toList != ([97, 109, 112] : List UInt8)) = false := bne_eq_false_iff_eq.mpr c8
     clear c8
     simp only [Option.some.injEq, Prod.mk.injEq] at H
     obtain ⟨rfl, rfl, rfl⟩ := H
     obtain ⟨HGz9, hgz9⟩ := HI0.out
     have hcz9_0 := cellS80_0 HGz9
     have hcz9_1 := cellS80_1 HGz9
     have hfz9_0 := blk_frozen HGz9 0
     have hfz9_1 := blk_frozen HGz9 1
     clear HGz9 hgz9
     go_enter Tryz.func200, Tryz.ntmps200
     go_wp2_with (first | (go_at_call 32; (with_reducible refine (spec_cut.calls k s0_0 59 t497 t498 true _ A2.out).mono ?_); rintro e w' ⟨rfl, ⟨nd, rfl⟩⟩; (skip)))
     repeat (go_quiet (first | (go_at_call 32; (with_reducible refine (spec_cut.calls k s0_0 59 t497 t498 true _ A2.out).mono ?_); rintro e w' ⟨rfl, ⟨nd, rfl⟩⟩; (skip))); try go_wp2_with (first | (go_at_call 32; (with_reducible refine (spec_cut.calls k s0_0 59 t497 t498 true _ A2.out).mono ?_); rintro e w' ⟨rfl, ⟨nd, rfl⟩⟩; (skip))))
     go_ret
     exact ⟨by rfl, by repeat ((with_reducible first | exact HI0.out | apply IsS80.drewN | apply IsS80.set_0 )), by repeat ((with_reducible first | exact HB.out | apply pw_below_drewN | refine below_set ?_ (IsS80.ge HI0.out))), by repeat ((with_reducible first | exact HK.out | apply KeepBut.set_ | apply keep_drewN ))⟩
    ·rw [if_neg c8] at H
     have c8b0 : (t497.toList == ([97, 109, 112] : List UInt8)) = false := beq_eq_false_iff_ne.mpr c8
     have c8b1 : (t497.toList != ([97, 109, 112] : List UInt8)) = true := bne_iff_ne.mpr c8
     by_cases c10 : t497.toList = ([113, 117, 111, 116] : List UInt8)
     ·rw [if_pos c10] at H
      have c10b0 : (t497.toList == ([113, 117, 111, 116] : List UInt8)) = true := beq_iff_eq.mpr c10
      have c10b1 : (t497.toList != ([113, 117, 111, 116] : List UInt8)) = false := bne_eq_false_iff_eq.mpr c10
      clear c10
      simp only [Option.some.injEq, Prod.mk.injEq] at H
      obtain ⟨rfl, rfl, rfl⟩ := H
      obtain ⟨HGz11, hgz11⟩ := HI0.out
      have hcz11_0 := cellS80_0 HGz11
      have hcz11_1 := cellS80_1 HGz11
      have hfz11_0 := blk_frozen HGz11 0
      have hfz11_1 := blk_frozen HGz11 1
      clear HGz11 hgz11
      go_enter Tryz.func200, Tryz.ntmps200
      go_wp2_with (first | (go_at_call 32; (with_reducible refine (spec_cut.calls k s0_0 59 t497 t498 true _ A2.out).mono ?_); rintro e w' ⟨rfl, ⟨nd, rfl⟩⟩; (skip)))
      repeat (go_quiet (first | (go_at_call 32; (with_reducible refine (spec_cut.calls k s0_0 59 t497 t498 true _ A2.out).mono ?_); rintro e w' ⟨rfl, ⟨nd, rfl⟩⟩; (skip))); try go_wp2_with (first | (go_at_call 32; (with_reducible refine (spec_cut.calls k s0_0 59 t497 t498 true _ A2.out).mono ?_); rintro e w' ⟨rfl, ⟨nd, rfl⟩⟩; (skip))))
      go_ret
      exact ⟨by rfl, by repeat ((with_reducible first | exact HI0.out | apply IsS80.drewN | apply IsS80.set_0 )), by repeat ((with_reducible first | exact HB.out | apply pw_below_drewN | refine below_set ?_ (IsS80.ge HI0.out))), by repeat ((with_reducible first | exact HK.out | apply KeepBut.set_ | apply keep_drewN ))⟩
     ·rw [if_neg c10] at H
      have c10b0 : (t497.toList == ([113, 117, 111, 116] : List UInt8)) = false := beq_eq_false_iff_ne.mpr c10
      have c10b1 : (t497.toList != ([113, 117, 111, 116] : List UInt8)) = true := bne_iff_ne.mpr c10
      by_cases c12 : t497.toList = ([97, 112, 111, 115] : List UInt8)
      ·rw [if_pos c12] at H
       have c12b0 : (t497.toList == ([97, 112, 111, 115] : List UInt8)) = true := beq_iff_eq.mpr c12
       have c12b1 : (t497.toList != ([97, 112, 111, 115] : List UInt8)) = false := bne_eq_false_iff_eq.mpr c12
       clear c12
       simp only [Option.some.injEq, Prod.mk.injEq] at H
       obtain ⟨rfl, rfl, rfl⟩ := H
       obtain ⟨HGz13, hgz13⟩ := HI0.out
       have hcz13_0 := cellS80_0 HGz13
       have hcz13_1 := cellS80_1 HGz13
       have hfz13_0 := blk_frozen HGz13 0
       have hfz13_1 := blk_frozen HGz13 1
       clear HGz13 hgz13
       go_enter Tryz.func200, Tryz.ntmps200
       go_wp2_with (first | (go_at_call 32; (with_reducible refine (spec_cut.calls k s0_0 59 t497 t498 true _ A2.out).mono ?_); rintro e w' ⟨rfl, ⟨nd, rfl⟩⟩; (skip)))
       repeat (go_quiet (first | (go_at_call 32; (with_reducible refine (spec_cut.calls k s0_0 59 t497 t498 true _ A2.out).mono ?_); rintro e w' ⟨rfl, ⟨nd, rfl⟩⟩; (skip))); try go_wp2_with (first | (go_at_call 32; (with_reducible refine (spec_cut.calls k s0_0 59 t497 t498 true _ A2.out).mono ?_); rintro e w' ⟨rfl, ⟨nd, rfl⟩⟩; (skip))))
       go_ret
       exact ⟨by rfl, by repeat ((with_reducible first | exact HI0.out | apply IsS80.drewN | apply IsS80.set_0 )), by repeat ((with_reducible first | exact HB.out | apply pw_below_drewN | refine below_set ?_ (IsS80.ge HI0.out))), by repeat ((with_reducible first | exact HK.out | apply KeepBut.set_ | apply keep_drewN ))⟩
      ·rw [if_neg c12] at H
       have c12b0 : (t497.toList == ([97, 112, 111, 115] : List UInt8)) = false := beq_eq_false_iff_ne.mpr c12
       have c12b1 : (t497.toList != ([97, 112, 111, 115] : List UInt8)) = true := bne_iff_ne.mpr c12
       have HC14 := Aside0.mk H
       clear H
       obtain ⟨HGz15, hgz15⟩ := HI0.out
       have hcz15_0 := cellS80_0 HGz15
       have hcz15_1 := cellS80_1 HGz15
       have hfz15_0 := blk_frozen HGz15 0
       have hfz15_1 := blk_frozen HGz15 1
       clear HGz15 hgz15
       go_enter Tryz.func200, Tryz.ntmps200
       go_upto_region 18 with (first | (go_at_call 32; (with_reducible refine (spec_cut.calls k s0_0 59 t497 t498 true _ A2.out).mono ?_); rintro e w' ⟨rfl, ⟨nd, rfl⟩⟩; (skip)))
       repeat (go_quiet (first | (go_at_call 32; (with_reducible refine (spec_cut.calls k s0_0 59 t497 t498 true _ A2.out).mono ?_); rintro e w' ⟨rfl, ⟨nd, rfl⟩⟩; (skip))); go_upto_region 18 with (first | (go_at_call 32; (with_reducible refine (spec_cut.calls k s0_0 59 t497 t498 true _ A2.out).mono ?_); rintro e w' ⟨rfl, ⟨nd, rfl⟩⟩; (skip))))
       (skip)
       go_cut [47] (fun v47 wc => ∃ (kq : Nat) (x47_13 : Bool), v47 = .bool x47_13 ∧ Aside0 (spec_reader_reference.j0 kq t497 0 10 x47_13 t498 s0_1 = some (r1, r2, r3)) ∧ Aside0 (kq ≤ k) ∧ Aside0 (IsS80 w0 wc g t498 s0_1) ∧ Aside0 (KeepBut w wc g none) ∧ Aside0 (Below w0.heap.size w0 wc))
       case first =>
        have H := HC14.out
        clear HC14
        by_cases c16 : (t497.size : Int) < 2
        ·rw [if_pos c16] at H
         have c16b0 : decide ((t497.size : Int) < 2) = true := decide_eq_true c16
         have c16b1 : decide (t497.size < 2) = true := decide_eq_true (by omega)
         clear c16
         (first | rw [c16b0] | (simp only [i64_w, i32_w]; rw [c16b0]) | skip)
         have H' := Aside0.mk H
         clear H
         go_wp2
         repeat (go_quiet (fail); try go_wp2)
         go_meet
         case rel => exact ⟨_, (true), (by first | rfl | (simp; done) | (simp [*]; done)), H', ⟨by first | omega | exact Nat.le_refl _⟩, ⟨by repeat ((with_reducible first | exact HI0.out | apply IsS80.drewN | apply IsS80.set_0 ))⟩, ⟨by repeat ((with_reducible first | exact HK.out | apply KeepBut.set_ | apply keep_drewN ))⟩, ⟨by repeat ((with_reducible first | exact HB.out | apply pw_below_drewN | refine below_set ?_ (IsS80.ge HI0.out)))⟩⟩
        ·rw [if_neg c16] at H
         have c16b0 : decide ((t497.size : Int) < 2) = false := decide_eq_false c16
         have c16b1 : decide (t497.size < 2) = false := decide_eq_false (by omega)
         clear c16
         (first | rw [c16b0] | (simp only [i64_w, i32_w]; rw [c16b0]) | skip)
         by_cases c17 : 0 < (t497.size : Int)
         ·rw [if_pos c17] at H
          have c17b0 : decide (0 < (t497.size : Int)) = true := decide_eq_true c17
          have c17b1 : decide (0 < t497.size) = true := decide_eq_true (by omega)
          clear c17
          have H' := Aside0.mk H
          clear H
          have p18 : 0 ≤ (0 : Int) := (by omega)
          have q18 : 0 < t497.size := (by have : (0 : Int) < (t497.size : Int) := of_decide_eq_true (by first | (with_reducible assumption) | assumption); omega)
          have hx18 : ∀ h : 0 < t497.size, ((t497[0]'h).toNat : Int) = bt t497 0 := bt_at t497 0
          clear p18
          have qi18 : (0 < (t497.size : Int)) = True := eq_true (of_decide_eq_true (by first | (with_reducible assumption) | assumption))
          replace q18 := eq_true q18
          go_wp2
          repeat (go_quiet (fail); try go_wp2)
          go_meet
          case rel => exact ⟨_, (((bt t497 0) != 35)), (by first | rfl | (simp; done) | (simp [*]; done)), H', ⟨by first | omega | exact Nat.le_refl _⟩, ⟨by repeat ((with_reducible first | exact HI0.out | apply IsS80.drewN | apply IsS80.set_0 ))⟩, ⟨by repeat ((with_reducible first | exact HK.out | apply KeepBut.set_ | apply keep_drewN ))⟩, ⟨by repeat ((with_reducible first | exact HB.out | apply pw_below_drewN | refine below_set ?_ (IsS80.ge HI0.out)))⟩⟩
         ·rw [if_neg c17] at H
          exact absurd H (by simp)
       case rest =>
        clear HC14
        try clear c1
        try clear p1
        try clear q1
        try clear hx1
        try clear qi1
        try clear c2
        try clear p2
        try clear c3
        try clear c4
        try clear c4b0
        try clear c4b1
        try clear c6
        try clear c6b0
        try clear c6b1
        try clear c8
        try clear c8b0
        try clear c8b1
        try clear c10
        try clear c10b0
        try clear c10b1
        try clear c12
        try clear c12b0
        try clear c12b1
        try clear c16
        try clear c16b0
        try clear c16b1
        try clear c17
        try clear c17b0
        try clear c17b1
        try clear p18
        try clear q18
        try clear hx18
        try clear qi18
        try clear hcz11_0
        try clear hcz11_1
        try clear hcz13_0
        try clear hcz13_1
        try clear hcz15_0
        try clear hcz15_1
        try clear hcz5_0
        try clear hcz5_1
        try clear hcz7_0
        try clear hcz7_1
        try clear hcz9_0
        try clear hcz9_1
        try clear hfz11_0
        try clear hfz11_1
        try clear hfz13_0
        try clear hfz13_1
        try clear hfz15_0
        try clear hfz15_1
        try clear hfz5_0
        try clear hfz5_1
        try clear hfz7_0
        try clear hfz7_1
        try clear hfz9_0
        try clear hfz9_1
        try clear p18
        try clear q18
        obtain ⟨kq, x47_13, rfl, HA, HJ13, HI0, HK, HB⟩ := hcut
        cases kq with
        | zero => exact absurd HA.out (by simp [spec_reader_reference.j0])
        | succ kj13 =>
          have H := HA.out
          clear HA
          simp only [spec_reader_reference.j0] at H
          by_cases c19 : x47_13 = true
          ·subst c19
           have H1 : (some ((⟨#[]⟩ : ByteArray), t498, true)) = some (r1, r2, r3) := by rw [if_pos rfl] at H; exact H
           clear H
           have H := H1
           clear H1
           simp only [Option.some.injEq, Prod.mk.injEq] at H
           obtain ⟨rfl, rfl, rfl⟩ := H
           obtain ⟨HGz20, hgz20⟩ := HI0.out
           have hcz20_0 := cellS80_0 HGz20
           have hcz20_1 := cellS80_1 HGz20
           have hfz20_0 := blk_frozen HGz20 0
           have hfz20_1 := blk_frozen HGz20 1
           clear HGz20 hgz20
           go_wp2
           repeat (go_quiet (fail); try go_wp2)
           go_ret
           exact ⟨by rfl, by repeat ((with_reducible first | exact HI0.out | apply IsS80.set_1)), by repeat ((with_reducible first | exact HB.out | refine below_set ?_ (IsS80.ge HI0.out))), by repeat ((with_reducible first | exact HK.out | apply KeepBut.set_ ))⟩
          ·replace c19 := Bool.eq_false_iff.mpr c19
           subst c19
           have H1 : (if 1 ≤ (t497.size : Int) then (if 0 < ((t497.extract 1 t497.size).size : Int) then (if (bt (t497.extract 1 t497.size) 0) = 120 then (if 1 ≤ ((t497.extract 1 t497.size).size : Int) then (spec_reader_reference.j1 kj13 ((t497.extract 1 t497.size).extract 1 (t497.extract 1 t497.size).size) 0 16 t498 s0_1) else (none)) else (spec_reader_reference.j1 kj13 (t497.extract 1 t497.size) 0 10 t498 s0_1)) else (none)) else (none)) = some (r1, r2, r3) := by rw [if_neg (show ¬ (false = true) by decide)] at H; exact H
           clear H
           have H := H1
           clear H1
           by_cases c21 : 1 ≤ (t497.size : Int)
           ·rw [if_pos c21] at H
            have c21b0 := eq_true c21
            have c21b1 : decide (1 ≤ (t497.size : Int)) = true := decide_eq_true c21
            clear c21
            by_cases c22 : 0 < ((t497.extract 1 t497.size).size : Int)
            ·rw [if_pos c22] at H
             have c22b0 : decide (0 < ((t497.extract 1 t497.size).size : Int)) = true := decide_eq_true c22
             have c22b1 : decide (0 < (t497.extract 1 t497.size).size) = true := decide_eq_true (by omega)
             clear c22
             have HC24 := Aside0.mk H
             clear H
             have p23 : 0 ≤ (0 : Int) := (by omega)
             have q23 : 0 < (t497.extract 1 t497.size).size := (by have : (0 : Int) < ((t497.extract 1 t497.size).size : Int) := of_decide_eq_true (by first | (with_reducible assumption) | assumption); omega)
             have hx23 : ∀ h : 0 < (t497.extract 1 t497.size).size, (((t497.extract 1 t497.size)[0]'h).toNat : Int) = bt (t497.extract 1 t497.size) 0 := bt_at (t497.extract 1 t497.size) 0
             clear p23
             have qi23 : (0 < ((t497.extract 1 t497.size).size : Int)) = True := eq_true (of_decide_eq_true (by first | (with_reducible assumption) | assumption))
             replace q23 := eq_true q23
             have q23z : (0 < t497.size - 1) = True := eq_true (by have h_ := of_decide_eq_true c22b1; rw [ByteArray.size_extract] at h_; omega)
             go_upto_if 55 with (fail)
             repeat (go_quiet (fail); go_upto_if 55 with (fail))
             go_cut [3, 7] (fun v3 v7 wc => ∃ (kq : Nat) (x3_23 : ByteArray) (x7_23 : Int), v3 = .string x3_23 ∧ v7 = .int .i32 x7_23 ∧ Aside0 (spec_reader_reference.j1 kq x3_23 0 x7_23 t498 s0_1 = some (r1, r2, r3)) ∧ Aside0 (kq ≤ kj13) ∧ Aside0 (IsS80 w0 wc g t498 s0_1) ∧ Aside0 (KeepBut w wc g none) ∧ Aside0 (Below w0.heap.size w0 wc))
             case first =>
              have H := HC24.out
              clear HC24
              by_cases c25 : (bt (t497.extract 1 t497.size) 0) = 120
              ·rw [if_pos c25] at H
               have c25b0 : ((bt (t497.extract 1 t497.size) 0) == 120) = true := beq_iff_eq.mpr c25
               have c25b1 : ((bt (t497.extract 1 t497.size) 0) != 120) = false := bne_eq_false_iff_eq.mpr c25
               clear c25
               (first | rw [c25b0] | (simp only [i64_w, i32_w]; rw [c25b0]) | skip)
               by_cases c26 : 1 ≤ ((t497.extract 1 t497.size).size : Int)
               ·rw [if_pos c26] at H
                have c26b0 := eq_true c26
                have c26b1 : decide (1 ≤ ((t497.extract 1 t497.size).size : Int)) = true := decide_eq_true c26
                have c26z : (1 ≤ t497.size - 1) = True := eq_true (by have h_ := c26; rw [ByteArray.size_extract] at h_; omega)
                have c26y : decide ((1 : Int) ≤ ((t497.size - 1 : Nat) : Int)) = true := decide_eq_true (by have h_ := c26; rw [ByteArray.size_extract] at h_; omega)
                have c26x : ((1 : Int) ≤ ((t497.size - 1 : Nat) : Int)) = True := eq_true (of_decide_eq_true c26y)
                clear c26
                have H' := Aside0.mk H
                clear H
                go_wp2
                go_quiet (fail); try go_wp2
                go_meet
                case rel => exact ⟨_, ((t497.extract 1 t497.size).extract 1 (t497.extract 1 t497.size).size), (16), (by first | rfl | (simp; done) | (simp [*]; done)), (by first | rfl | (simp; done) | (simp [*]; done)), H', ⟨by have := HJ13.out; first | omega | exact Nat.le_refl _⟩, ⟨by repeat ((with_reducible first | exact HI0.out | apply IsS80.drewN ))⟩, ⟨by repeat ((with_reducible first | exact HK.out | apply keep_drewN ))⟩, ⟨by repeat ((with_reducible first | exact HB.out | apply pw_below_drewN ))⟩⟩
               ·rw [if_neg c26] at H
                exact absurd H (by simp)
              ·rw [if_neg c25] at H
               have c25b0 : ((bt (t497.extract 1 t497.size) 0) == 120) = false := beq_eq_false_iff_ne.mpr c25
               have c25b1 : ((bt (t497.extract 1 t497.size) 0) != 120) = true := bne_iff_ne.mpr c25
               (first | rw [c25b0] | (simp only [i64_w, i32_w]; rw [c25b0]) | skip)
               have H' := Aside0.mk H
               clear H
               go_wp2
               repeat (go_quiet (fail); try go_wp2)
               go_meet
               case rel => exact ⟨_, (t497.extract 1 t497.size), (10), (by first | rfl | (simp; done) | (simp [*]; done)), (by first | rfl | (simp; done) | (simp [*]; done)), H', ⟨by have := HJ13.out; first | omega | exact Nat.le_refl _⟩, ⟨by repeat ((with_reducible exact HI0.out))⟩, ⟨by repeat ((with_reducible exact HK.out))⟩, ⟨by repeat ((with_reducible exact HB.out))⟩⟩
             case rest =>
              clear HC24
              try clear c1
              try clear p1
              try clear q1
              try clear hx1
              try clear qi1
              try clear c2
              try clear p2
              try clear q2
              try clear hx2
              try clear qi2
              try clear c3
              try clear c4
              try clear c4b0
              try clear c4b1
              try clear c6
              try clear c6b0
              try clear c6b1
              try clear c8
              try clear c8b0
              try clear c8b1
              try clear c10
              try clear c10b0
              try clear c10b1
              try clear c12
              try clear c12b0
              try clear c12b1
              try clear c16
              try clear c16b0
              try clear c16b1
              try clear c17
              try clear c17b0
              try clear c17b1
              try clear p18
              try clear q18
              try clear hx18
              try clear qi18
              try clear c19
              try clear c20
              try clear c21
              try clear c21b0
              try clear c21b1
              try clear c22
              try clear c22b0
              try clear c22b1
              try clear p23
              try clear q23
              try clear hx23
              try clear qi23
              try clear c25
              try clear c25b0
              try clear c25b1
              try clear c26
              try clear c26b0
              try clear c26b1
              try clear hcz11_0
              try clear hcz11_1
              try clear hcz13_0
              try clear hcz13_1
              try clear hcz15_0
              try clear hcz15_1
              try clear hcz20_0
              try clear hcz20_1
              try clear hcz5_0
              try clear hcz5_1
              try clear hcz7_0
              try clear hcz7_1
              try clear hcz9_0
              try clear hcz9_1
              try clear hfz11_0
              try clear hfz11_1
              try clear hfz13_0
              try clear hfz13_1
              try clear hfz15_0
              try clear hfz15_1
              try clear hfz20_0
              try clear hfz20_1
              try clear hfz5_0
              try clear hfz5_1
              try clear hfz7_0
              try clear hfz7_1
              try clear hfz9_0
              try clear hfz9_1
              try clear p1
              try clear p18
              try clear p2
              try clear p23
              try clear q1
              try clear q18
              try clear q23
              obtain ⟨kq, x3_23, x7_23, rfl, rfl, HA, HJ23, HI0, HK, HB⟩ := hcut
              cases kq with
              | zero => exact absurd HA.out (by simp [spec_reader_reference.j1])
              | succ kj23 =>
                have H := HA.out
                clear HA
                simp only [spec_reader_reference.j1] at H
                have H' := Aside0.mk H
                clear H
                go_wp2
                repeat (go_quiet (fail); try go_wp2)
                go_loopg [6, 60] kj23 (fun kq v6 v60 w' => ∃ (x6_3 : Int) (x60_3 : Int) (x1001_3 : Bool), v6 = .int .i32 x6_3 ∧ v60 = .int .i64 x60_3 ∧ Aside0 (spec_reader_reference.l0 kq x3_23 x6_3 x7_23 (x3_23.size : Int) x60_3 t498 x1001_3 = some (r1, r2, r3)) ∧ Aside0 (kq ≤ kj23) ∧ Aside0 (IsS80 w0 w' g t498 x1001_3) ∧ Aside0 (KeepBut w w' g none) ∧ Aside0 (Below w0.heap.size w0 w'))
                case atStart => exact ⟨(0), (0), (s0_1), (by first | rfl | (simp; done) | (simp [*]; done)), (by first | rfl | (simp; done) | (simp [*]; done)), H', ⟨Nat.le_refl _⟩, ⟨by repeat ((with_reducible exact HI0.out))⟩, ⟨by repeat ((with_reducible exact HK.out))⟩, ⟨by repeat ((with_reducible exact HB.out))⟩⟩
                case round =>
                 clear H'
                 try clear c1
                 try clear p1
                 try clear q1
                 try clear hx1
                 try clear qi1
                 try clear c2
                 try clear p2
                 try clear q2
                 try clear hx2
                 try clear qi2
                 try clear c3
                 try clear c4
                 try clear c4b0
                 try clear c4b1
                 try clear c6
                 try clear c6b0
                 try clear c6b1
                 try clear c8
                 try clear c8b0
                 try clear c8b1
                 try clear c10
                 try clear c10b0
                 try clear c10b1
                 try clear c12
                 try clear c12b0
                 try clear c12b1
                 try clear c16
                 try clear c16b0
                 try clear c16b1
                 try clear c17
                 try clear c17b0
                 try clear c17b1
                 try clear p18
                 try clear q18
                 try clear hx18
                 try clear qi18
                 try clear c19
                 try clear c20
                 try clear c21
                 try clear c21b0
                 try clear c21b1
                 try clear c22
                 try clear c22b0
                 try clear c22b1
                 try clear p23
                 try clear q23
                 try clear hx23
                 try clear qi23
                 try clear c25
                 try clear c25b0
                 try clear c25b1
                 try clear c26
                 try clear c26b0
                 try clear c26b1
                 try clear hcz11_0
                 try clear hcz11_1
                 try clear hcz13_0
                 try clear hcz13_1
                 try clear hcz15_0
                 try clear hcz15_1
                 try clear hcz20_0
                 try clear hcz20_1
                 try clear hcz5_0
                 try clear hcz5_1
                 try clear hcz7_0
                 try clear hcz7_1
                 try clear hcz9_0
                 try clear hcz9_1
                 try clear hfz11_0
                 try clear hfz11_1
                 try clear hfz13_0
                 try clear hfz13_1
                 try clear hfz15_0
                 try clear hfz15_1
                 try clear hfz20_0
                 try clear hfz20_1
                 try clear hfz5_0
                 try clear hfz5_1
                 try clear hfz7_0
                 try clear hfz7_1
                 try clear hfz9_0
                 try clear hfz9_1
                 try clear p1
                 try clear p18
                 try clear p2
                 try clear p23
                 try clear q1
                 try clear q18
                 try clear q2
                 try clear q23
                 obtain ⟨x6_3, x60_3, x1001_3, rfl, rfl, HA, HK3, HI0, HK, HB⟩ := hrel
                 cases gk with
                 | zero => exact absurd HA.out (by simp [spec_reader_reference.l0])
                 | succ k3 =>
                   have H := HA.out
                   clear HA
                   simp only [spec_reader_reference.l0] at H
                   by_cases c27 : x60_3 < (x3_23.size : Int)
                   ·rw [if_pos c27] at H
                    have c27b0 : decide (x60_3 < (x3_23.size : Int)) = true := decide_eq_true c27
                    clear c27
                    by_cases c28 : 0 ≤ x60_3
                    ·rw [if_pos c28] at H
                     have c28b0 : decide (0 ≤ x60_3) = true := decide_eq_true c28
                     clear c28
                     by_cases c29 : x60_3 < (x3_23.size : Int)
                     ·rw [if_pos c29] at H
                      have c29b0 : decide (x60_3 < (x3_23.size : Int)) = true := decide_eq_true c29
                      clear c29
                      replace H := Option.bind_eq_some_iff.mp H
                      obtain ⟨⟨t500, t501⟩, A310, H⟩ := H
                      replace H : (if t501 = true then (if (wrap32 (t500)) ≥ x7_23 then (some ((⟨#[]⟩ : ByteArray), t498, true)) else (if x6_3 > 1114111 then (some ((⟨#[]⟩ : ByteArray), t498, true)) else (spec_reader_reference.l0 k3 x3_23 (wrap32 ((wrap32 (x6_3 * x7_23)) + (wrap32 (t500)))) x7_23 (x3_23.size : Int) (wrap64 (x60_3 + 1)) t498 x1001_3))) else (some ((⟨#[]⟩ : ByteArray), t498, true))) = some (r1, r2, r3) := H
                      have A31 := Aside0.mk A310
                      clear A310
                      by_cases c32 : t501 = true
                      ·subst c32
                       have H1 : (if (wrap32 (t500)) ≥ x7_23 then (some ((⟨#[]⟩ : ByteArray), t498, true)) else (if x6_3 > 1114111 then (some ((⟨#[]⟩ : ByteArray), t498, true)) else (spec_reader_reference.l0 k3 x3_23 (wrap32 ((wrap32 (x6_3 * x7_23)) + (wrap32 (t500)))) x7_23 (x3_23.size : Int) (wrap64 (x60_3 + 1)) t498 x1001_3))) = some (r1, r2, r3) := by rw [if_pos rfl] at H; exact H
                       clear H
                       have H := H1
                       clear H1
                       by_cases c33 : (wrap32 (t500)) ≥ x7_23
                       ·rw [if_pos c33] at H
                        have c33b0 : decide (x7_23 ≤ (wrap32 (t500))) = true := decide_eq_true c33
                        clear c33
                        simp only [Option.some.injEq, Prod.mk.injEq] at H
                        obtain ⟨rfl, rfl, rfl⟩ := H
                        have p30 : 0 ≤ (x60_3 : Int) := of_decide_eq_true (by first | (with_reducible assumption) | assumption)
                        have q30 : x60_3 < (x3_23.size : Int) := of_decide_eq_true (by first | (with_reducible assumption) | assumption)
                        have hx30 := bt_at x3_23 x60_3
                        replace p30 := eq_true p30
                        replace q30 := eq_true q30
                        go_wp2_with (first | (go_at_call 79; (with_reducible refine (spec_digit.calls k3 (bt x3_23 x60_3) t500 true _ A31.out).mono ?_); rintro e w' ⟨rfl, ⟨nd, rfl⟩⟩; (skip); obtain ⟨HGz34, hgz34⟩ := HI0.out; have hcz34_0 := cellS80_0 HGz34; have hcz34_1 := cellS80_1 HGz34; have hfz34_0 := blk_frozen HGz34 0; have hfz34_1 := blk_frozen HGz34 1; clear HGz34 hgz34))
                        repeat (go_quiet (first | (go_at_call 79; (with_reducible refine (spec_digit.calls k3 (bt x3_23 x60_3) t500 true _ A31.out).mono ?_); rintro e w' ⟨rfl, ⟨nd, rfl⟩⟩; (skip); obtain ⟨HGz34, hgz34⟩ := HI0.out; have hcz34_0 := cellS80_0 HGz34; have hcz34_1 := cellS80_1 HGz34; have hfz34_0 := blk_frozen HGz34 0; have hfz34_1 := blk_frozen HGz34 1; clear HGz34 hgz34)); try go_wp2_with (first | (go_at_call 79; (with_reducible refine (spec_digit.calls k3 (bt x3_23 x60_3) t500 true _ A31.out).mono ?_); rintro e w' ⟨rfl, ⟨nd, rfl⟩⟩; (skip); obtain ⟨HGz34, hgz34⟩ := HI0.out; have hcz34_0 := cellS80_0 HGz34; have hcz34_1 := cellS80_1 HGz34; have hfz34_0 := blk_frozen HGz34 0; have hfz34_1 := blk_frozen HGz34 1; clear HGz34 hgz34)))
                        go_ret
                        exact ⟨by rfl, by repeat ((with_reducible first | exact HI0.out | apply IsS80.drewN | apply IsS80.set_1)), by repeat ((with_reducible first | exact HB.out | apply pw_below_drewN | refine below_set ?_ (IsS80.ge HI0.out))), by repeat ((with_reducible first | exact HK.out | apply KeepBut.set_ | apply keep_drewN ))⟩
                       ·rw [if_neg c33] at H
                        have c33b0 : decide (x7_23 ≤ (wrap32 (t500))) = false := decide_eq_false c33
                        clear c33
                        by_cases c35 : x6_3 > 1114111
                        ·rw [if_pos c35] at H
                         have c35b0 : decide (1114111 < x6_3) = true := decide_eq_true c35
                         clear c35
                         simp only [Option.some.injEq, Prod.mk.injEq] at H
                         obtain ⟨rfl, rfl, rfl⟩ := H
                         have p30 : 0 ≤ (x60_3 : Int) := of_decide_eq_true (by first | (with_reducible assumption) | assumption)
                         have q30 : x60_3 < (x3_23.size : Int) := of_decide_eq_true (by first | (with_reducible assumption) | assumption)
                         have hx30 := bt_at x3_23 x60_3
                         replace p30 := eq_true p30
                         replace q30 := eq_true q30
                         go_wp2_with (first | (go_at_call 79; (with_reducible refine (spec_digit.calls k3 (bt x3_23 x60_3) t500 true _ A31.out).mono ?_); rintro e w' ⟨rfl, ⟨nd, rfl⟩⟩; (skip); obtain ⟨HGz36, hgz36⟩ := HI0.out; have hcz36_0 := cellS80_0 HGz36; have hcz36_1 := cellS80_1 HGz36; have hfz36_0 := blk_frozen HGz36 0; have hfz36_1 := blk_frozen HGz36 1; clear HGz36 hgz36))
                         repeat (go_quiet (first | (go_at_call 79; (with_reducible refine (spec_digit.calls k3 (bt x3_23 x60_3) t500 true _ A31.out).mono ?_); rintro e w' ⟨rfl, ⟨nd, rfl⟩⟩; (skip); obtain ⟨HGz36, hgz36⟩ := HI0.out; have hcz36_0 := cellS80_0 HGz36; have hcz36_1 := cellS80_1 HGz36; have hfz36_0 := blk_frozen HGz36 0; have hfz36_1 := blk_frozen HGz36 1; clear HGz36 hgz36)); try go_wp2_with (first | (go_at_call 79; (with_reducible refine (spec_digit.calls k3 (bt x3_23 x60_3) t500 true _ A31.out).mono ?_); rintro e w' ⟨rfl, ⟨nd, rfl⟩⟩; (skip); obtain ⟨HGz36, hgz36⟩ := HI0.out; have hcz36_0 := cellS80_0 HGz36; have hcz36_1 := cellS80_1 HGz36; have hfz36_0 := blk_frozen HGz36 0; have hfz36_1 := blk_frozen HGz36 1; clear HGz36 hgz36)))
                         go_ret
                         exact ⟨by rfl, by repeat ((with_reducible first | exact HI0.out | apply IsS80.drewN | apply IsS80.set_1)), by repeat ((with_reducible first | exact HB.out | apply pw_below_drewN | refine below_set ?_ (IsS80.ge HI0.out))), by repeat ((with_reducible first | exact HK.out | apply KeepBut.set_ | apply keep_drewN ))⟩
                        ·rw [if_neg c35] at H
                         have c35b0 : decide (1114111 < x6_3) = false := decide_eq_false c35
                         clear c35
                         have H' := Aside0.mk H
                         clear H
                         have p30 : 0 ≤ (x60_3 : Int) := of_decide_eq_true (by first | (with_reducible assumption) | assumption)
                         have q30 : x60_3 < (x3_23.size : Int) := of_decide_eq_true (by first | (with_reducible assumption) | assumption)
                         have hx30 := bt_at x3_23 x60_3
                         replace p30 := eq_true p30
                         replace q30 := eq_true q30
                         go_wp2_with (first | (go_at_call 79; (with_reducible refine (spec_digit.calls k3 (bt x3_23 x60_3) t500 true _ A31.out).mono ?_); rintro e w' ⟨rfl, ⟨nd, rfl⟩⟩; (skip)))
                         repeat (go_quiet (first | (go_at_call 79; (with_reducible refine (spec_digit.calls k3 (bt x3_23 x60_3) t500 true _ A31.out).mono ?_); rintro e w' ⟨rfl, ⟨nd, rfl⟩⟩; (skip))); try go_wp2_with (first | (go_at_call 79; (with_reducible refine (spec_digit.calls k3 (bt x3_23 x60_3) t500 true _ A31.out).mono ?_); rintro e w' ⟨rfl, ⟨nd, rfl⟩⟩; (skip))))
                         go_roundg k3
                         case measure => have := HJ13.out; have := HJ23.out; have := HK3.out; omega
                         case rel => exact ⟨(wrap32 ((wrap32 (x6_3 * x7_23)) + (wrap32 (t500)))), (wrap64 (x60_3 + 1)), (x1001_3), (by first | rfl | (simp; done) | (simp [*]; done)), (by first | rfl | (simp; done) | (simp [*]; done)), H', ⟨by have := HJ13.out; have := HJ23.out; have := HK3.out; omega⟩, ⟨by repeat ((with_reducible first | exact HI0.out | apply IsS80.drewN ))⟩, ⟨by repeat ((with_reducible first | exact HK.out | apply keep_drewN ))⟩, ⟨by repeat ((with_reducible first | exact HB.out | apply pw_below_drewN ))⟩⟩
                      ·replace c32 := Bool.eq_false_iff.mpr c32
                       subst c32
                       have H1 : (some ((⟨#[]⟩ : ByteArray), t498, true)) = some (r1, r2, r3) := by rw [if_neg (show ¬ (false = true) by decide)] at H; exact H
                       clear H
                       have H := H1
                       clear H1
                       simp only [Option.some.injEq, Prod.mk.injEq] at H
                       obtain ⟨rfl, rfl, rfl⟩ := H
                       have p30 : 0 ≤ (x60_3 : Int) := of_decide_eq_true (by first | (with_reducible assumption) | assumption)
                       have q30 : x60_3 < (x3_23.size : Int) := of_decide_eq_true (by first | (with_reducible assumption) | assumption)
                       have hx30 := bt_at x3_23 x60_3
                       replace p30 := eq_true p30
                       replace q30 := eq_true q30
                       go_wp2_with (first | (go_at_call 79; (with_reducible refine (spec_digit.calls k3 (bt x3_23 x60_3) t500 false _ A31.out).mono ?_); rintro e w' ⟨rfl, ⟨nd, rfl⟩⟩; (skip); obtain ⟨HGz37, hgz37⟩ := HI0.out; have hcz37_0 := cellS80_0 HGz37; have hcz37_1 := cellS80_1 HGz37; have hfz37_0 := blk_frozen HGz37 0; have hfz37_1 := blk_frozen HGz37 1; clear HGz37 hgz37))
                       repeat (go_quiet (first | (go_at_call 79; (with_reducible refine (spec_digit.calls k3 (bt x3_23 x60_3) t500 false _ A31.out).mono ?_); rintro e w' ⟨rfl, ⟨nd, rfl⟩⟩; (skip); obtain ⟨HGz37, hgz37⟩ := HI0.out; have hcz37_0 := cellS80_0 HGz37; have hcz37_1 := cellS80_1 HGz37; have hfz37_0 := blk_frozen HGz37 0; have hfz37_1 := blk_frozen HGz37 1; clear HGz37 hgz37)); try go_wp2_with (first | (go_at_call 79; (with_reducible refine (spec_digit.calls k3 (bt x3_23 x60_3) t500 false _ A31.out).mono ?_); rintro e w' ⟨rfl, ⟨nd, rfl⟩⟩; (skip); obtain ⟨HGz37, hgz37⟩ := HI0.out; have hcz37_0 := cellS80_0 HGz37; have hcz37_1 := cellS80_1 HGz37; have hfz37_0 := blk_frozen HGz37 0; have hfz37_1 := blk_frozen HGz37 1; clear HGz37 hgz37)))
                       go_ret
                       exact ⟨by rfl, by repeat ((with_reducible first | exact HI0.out | apply IsS80.drewN | apply IsS80.set_1)), by repeat ((with_reducible first | exact HB.out | apply pw_below_drewN | refine below_set ?_ (IsS80.ge HI0.out))), by repeat ((with_reducible first | exact HK.out | apply KeepBut.set_ | apply keep_drewN ))⟩
                     ·rw [if_neg c29] at H
                      exact absurd H (by simp)
                    ·rw [if_neg c28] at H
                     exact absurd H (by simp)
                   ·rw [if_neg c27] at H
                    have c27b0 : decide (x60_3 < (x3_23.size : Int)) = false := decide_eq_false c27
                    clear c27
                    by_cases c38 : x3_23.toList = ([] : List UInt8)
                    ·rw [if_pos c38] at H
                     have c38b0 : (x3_23.toList == ([] : List UInt8)) = true := beq_iff_eq.mpr c38
                     have c38b1 : (x3_23.toList != ([] : List UInt8)) = false := bne_eq_false_iff_eq.mpr c38
                     clear c38
                     simp only [Option.some.injEq, Prod.mk.injEq] at H
                     obtain ⟨rfl, rfl, rfl⟩ := H
                     obtain ⟨HGz39, hgz39⟩ := HI0.out
                     have hcz39_0 := cellS80_0 HGz39
                     have hcz39_1 := cellS80_1 HGz39
                     have hfz39_0 := blk_frozen HGz39 0
                     have hfz39_1 := blk_frozen HGz39 1
                     clear HGz39 hgz39
                     go_wp2
                     repeat (go_quiet (fail); try go_wp2)
                     go_ret
                     exact ⟨by rfl, by repeat ((with_reducible first | exact HI0.out | apply IsS80.set_1)), by repeat ((with_reducible first | exact HB.out | refine below_set ?_ (IsS80.ge HI0.out))), by repeat ((with_reducible first | exact HK.out | apply KeepBut.set_ ))⟩
                    ·rw [if_neg c38] at H
                     have c38b0 : (x3_23.toList == ([] : List UInt8)) = false := beq_eq_false_iff_ne.mpr c38
                     have c38b1 : (x3_23.toList != ([] : List UInt8)) = true := bne_iff_ne.mpr c38
                     replace H := Option.bind_eq_some_iff.mp H
                     obtain ⟨t502, A400, H⟩ := H
                     replace H : (if t502 = true then (if x6_3 > 1114111 then (some ((⟨#[]⟩ : ByteArray), t498, true)) else ((spec_utf8.f x6_3).bind fun t503 => (some (t503, t498, x1001_3)))) else (some ((⟨#[]⟩ : ByteArray), t498, true))) = some (r1, r2, r3) := H
                     have A40 := Aside0.mk A400
                     clear A400
                     by_cases c41 : t502 = true
                     ·subst c41
                      have H1 : (if x6_3 > 1114111 then (some ((⟨#[]⟩ : ByteArray), t498, true)) else ((spec_utf8.f x6_3).bind fun t503 => (some (t503, t498, x1001_3)))) = some (r1, r2, r3) := by rw [if_pos rfl] at H; exact H
                      clear H
                      have H := H1
                      clear H1
                      by_cases c42 : x6_3 > 1114111
                      ·rw [if_pos c42] at H
                       have c42b0 : decide (1114111 < x6_3) = true := decide_eq_true c42
                       clear c42
                       simp only [Option.some.injEq, Prod.mk.injEq] at H
                       obtain ⟨rfl, rfl, rfl⟩ := H
                       go_wp2_with (first | (go_at_call 103; (with_reducible refine (spec_isChar.calls x6_3 true _ A40.out).mono ?_); rintro e w' ⟨rfl, ⟨nd, rfl⟩⟩; (skip); obtain ⟨HGz43, hgz43⟩ := HI0.out; have hcz43_0 := cellS80_0 HGz43; have hcz43_1 := cellS80_1 HGz43; have hfz43_0 := blk_frozen HGz43 0; have hfz43_1 := blk_frozen HGz43 1; clear HGz43 hgz43))
                       repeat (go_quiet (first | (go_at_call 103; (with_reducible refine (spec_isChar.calls x6_3 true _ A40.out).mono ?_); rintro e w' ⟨rfl, ⟨nd, rfl⟩⟩; (skip); obtain ⟨HGz43, hgz43⟩ := HI0.out; have hcz43_0 := cellS80_0 HGz43; have hcz43_1 := cellS80_1 HGz43; have hfz43_0 := blk_frozen HGz43 0; have hfz43_1 := blk_frozen HGz43 1; clear HGz43 hgz43)); try go_wp2_with (first | (go_at_call 103; (with_reducible refine (spec_isChar.calls x6_3 true _ A40.out).mono ?_); rintro e w' ⟨rfl, ⟨nd, rfl⟩⟩; (skip); obtain ⟨HGz43, hgz43⟩ := HI0.out; have hcz43_0 := cellS80_0 HGz43; have hcz43_1 := cellS80_1 HGz43; have hfz43_0 := blk_frozen HGz43 0; have hfz43_1 := blk_frozen HGz43 1; clear HGz43 hgz43)))
                       go_ret
                       exact ⟨by rfl, by repeat ((with_reducible first | exact HI0.out | apply IsS80.drewN | apply IsS80.set_1)), by repeat ((with_reducible first | exact HB.out | apply pw_below_drewN | refine below_set ?_ (IsS80.ge HI0.out))), by repeat ((with_reducible first | exact HK.out | apply KeepBut.set_ | apply keep_drewN ))⟩
                      ·rw [if_neg c42] at H
                       have c42b0 : decide (1114111 < x6_3) = false := decide_eq_false c42
                       clear c42
                       replace H := Option.bind_eq_some_iff.mp H
                       obtain ⟨t503, A440, H⟩ := H
                       replace H : (some (t503, t498, x1001_3)) = some (r1, r2, r3) := H
                       have A44 := Aside0.mk A440
                       clear A440
                       simp only [Option.some.injEq, Prod.mk.injEq] at H
                       obtain ⟨rfl, rfl, rfl⟩ := H
                       go_wp2_with (first | (go_at_call 103; (with_reducible refine (spec_isChar.calls x6_3 true _ A40.out).mono ?_); rintro e w' ⟨rfl, ⟨nd, rfl⟩⟩; (skip)) | (go_at_call 192; (with_reducible refine (spec_utf8.calls x6_3 t503 _ A44.out).mono ?_); rintro e w45 ⟨rfl, hb⟩; have n0_ := Aside0.mk (IsS80.below (by repeat ((with_reducible first | exact HI0.out | apply IsS80.drewN ))) hb); have n1_ := Aside0.mk (KeepBut.trans (by repeat ((with_reducible first | exact HK.out | apply keep_drewN ))) (KeepBut.of_below hb g none) (.inl rfl)); have n2_ := Aside0.mk (below_step (by repeat ((with_reducible first | exact HB.out | apply pw_below_drewN ))) hb); clear HI0; clear HK; clear HB; have HI0 := n0_; have HK := n1_; have HB := n2_; clear n0_ n1_ n2_; (try clear hb); (try clear hb2); (try clear hk); (try clear hi)))
                       repeat (go_quiet (fail); try go_wp2_with (fail))
                       go_ret
                       exact ⟨by rfl, by repeat ((with_reducible exact HI0.out)), by repeat ((with_reducible exact HB.out)), by repeat ((with_reducible exact HK.out))⟩
                     ·replace c41 := Bool.eq_false_iff.mpr c41
                      subst c41
                      have H1 : (some ((⟨#[]⟩ : ByteArray), t498, true)) = some (r1, r2, r3) := by rw [if_neg (show ¬ (false = true) by decide)] at H; exact H
                      clear H
                      have H := H1
                      clear H1
                      simp only [Option.some.injEq, Prod.mk.injEq] at H
                      obtain ⟨rfl, rfl, rfl⟩ := H
                      go_wp2_with (first | (go_at_call 103; (with_reducible refine (spec_isChar.calls x6_3 false _ A40.out).mono ?_); rintro e w' ⟨rfl, ⟨nd, rfl⟩⟩; (skip); obtain ⟨HGz46, hgz46⟩ := HI0.out; have hcz46_0 := cellS80_0 HGz46; have hcz46_1 := cellS80_1 HGz46; have hfz46_0 := blk_frozen HGz46 0; have hfz46_1 := blk_frozen HGz46 1; clear HGz46 hgz46))
                      repeat (go_quiet (first | (go_at_call 103; (with_reducible refine (spec_isChar.calls x6_3 false _ A40.out).mono ?_); rintro e w' ⟨rfl, ⟨nd, rfl⟩⟩; (skip); obtain ⟨HGz46, hgz46⟩ := HI0.out; have hcz46_0 := cellS80_0 HGz46; have hcz46_1 := cellS80_1 HGz46; have hfz46_0 := blk_frozen HGz46 0; have hfz46_1 := blk_frozen HGz46 1; clear HGz46 hgz46)); try go_wp2_with (first | (go_at_call 103; (with_reducible refine (spec_isChar.calls x6_3 false _ A40.out).mono ?_); rintro e w' ⟨rfl, ⟨nd, rfl⟩⟩; (skip); obtain ⟨HGz46, hgz46⟩ := HI0.out; have hcz46_0 := cellS80_0 HGz46; have hcz46_1 := cellS80_1 HGz46; have hfz46_0 := blk_frozen HGz46 0; have hfz46_1 := blk_frozen HGz46 1; clear HGz46 hgz46)))
                      go_ret
                      exact ⟨by rfl, by repeat ((with_reducible first | exact HI0.out | apply IsS80.drewN | apply IsS80.set_1)), by repeat ((with_reducible first | exact HB.out | apply pw_below_drewN | refine below_set ?_ (IsS80.ge HI0.out))), by repeat ((with_reducible first | exact HK.out | apply KeepBut.set_ | apply keep_drewN ))⟩
            ·rw [if_neg c22] at H
             exact absurd H (by simp)
           ·rw [if_neg c21] at H
            exact absurd H (by simp)
 ·replace c3 := Bool.eq_false_iff.mpr c3
  subst c3
  have H1 : (some ((⟨#[]⟩ : ByteArray), s0_0, true)) = some (r1, r2, r3) := by rw [if_neg (show ¬ (false = true) by decide)] at H; exact H
  clear H
  have H := H1
  clear H1
  simp only [Option.some.injEq, Prod.mk.injEq] at H
  obtain ⟨rfl, rfl, rfl⟩ := H
  obtain ⟨HGz47, hgz47⟩ := HI0.out
  have hcz47_0 := cellS80_0 HGz47
  have hcz47_1 := cellS80_1 HGz47
  have hfz47_0 := blk_frozen HGz47 0
  have hfz47_1 := blk_frozen HGz47 1
  clear HGz47 hgz47
  go_enter Tryz.func200, Tryz.ntmps200
  go_wp2_with (first | (go_at_call 32; (with_reducible refine (spec_cut.calls k s0_0 59 t497 t498 false _ A2.out).mono ?_); rintro e w' ⟨rfl, ⟨nd, rfl⟩⟩; (skip)))
  repeat (go_quiet (first | (go_at_call 32; (with_reducible refine (spec_cut.calls k s0_0 59 t497 t498 false _ A2.out).mono ?_); rintro e w' ⟨rfl, ⟨nd, rfl⟩⟩; (skip))); try go_wp2_with (first | (go_at_call 32; (with_reducible refine (spec_cut.calls k s0_0 59 t497 t498 false _ A2.out).mono ?_); rintro e w' ⟨rfl, ⟨nd, rfl⟩⟩; (skip))))
  go_ret
  exact ⟨by rfl, by repeat ((with_reducible first | exact HI0.out | apply IsS80.drewN | apply IsS80.set_1)), by repeat ((with_reducible first | exact HB.out | apply pw_below_drewN | refine below_set ?_ (IsS80.ge HI0.out))), by repeat ((with_reducible first | exact HK.out | apply KeepBut.set_ | apply keep_drewN ))⟩

end Go.Proofs.YtkihaebaccdjdaaGreatDoor.PX
