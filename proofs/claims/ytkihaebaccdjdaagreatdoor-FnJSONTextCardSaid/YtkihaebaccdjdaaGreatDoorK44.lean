import Derived.Test.YtkihaebaccdjdaaGreatDoorK7
import Derived.Test.YtkihaebaccdjdaaGreatDoorK40
namespace Go.Proofs.YtkihaebaccdjdaaGreatDoor.PX
open Go.RowKit Go.Proofs.YtkihaebaccdjdaaGreatDoorW.PrintWords Go.Proofs.YtkihaebaccdjdaaGreatDoorW.PrintLast Go.Proofs.YtkihaebaccdjdaaGreatDoorW.PrintMore
attribute [local go_sem] max2_int min2_int max_two min_two max_three min_three max_four min_four   -- for this text's walks alone
set_option linter.unusedVariables false
set_option linter.unusedSimpArgs false

/-! ### spec_reader_peek: function 85 -/
def spec_reader_peek.f (s0_0 : ByteArray) (s0_1 : Bool) : Option (Int × ByteArray × Bool) := if s0_0.toList = ([] : List UInt8) then (some (0, s0_0, s0_1)) else (if 0 < (s0_0.size : Int) then (some (bt s0_0 0, s0_0, s0_1)) else (none))
set_option maxHeartbeats 8000000 in
set_option maxRecDepth 100000 in
theorem spec_reader_peek.calls (g : Nat) (s0_0 : ByteArray) (s0_1 : Bool) (r1 : Int) (r2 : ByteArray) (r3 : Bool) (w0 w : World) (hI : IsS80 w0 w g s0_0 s0_1) (hB : Below w0.heap.size w0 w) (h : spec_reader_peek.f s0_0 s0_1 = some (r1, r2, r3)) :
    Calls Tryz.prog 85 #[.pointer (some ⟨g, 0, none⟩)] w fun e w' => e = .returned (.int .u8 r1) ∧ IsS80 w0 w' g r2 r3 ∧ Below w0.heap.size w0 w' ∧ KeepBut w w' g none := by
  have HI0 := Aside0.mk hI
  have HK := Aside0.mk (KeepBut.refl w g none)
  have HL := Aside0.mk hB.size
  clear hI
  have HW0 := Aside0.mk hB.size
  have HB := Aside0.mk hB
  clear hB
  have H : (if s0_0.toList = ([] : List UInt8) then (some (0, s0_0, s0_1)) else (if 0 < (s0_0.size : Int) then (some (bt s0_0 0, s0_0, s0_1)) else (none))) = some (r1, r2, r3) := h
  clear h
  by_cases c2 : s0_0.toList = ([] : List UInt8)
  · rw [if_pos c2] at H
    have c2b0 : (s0_0.toList == ([] : List UInt8)) = true := beq_iff_eq.mpr c2
    have c2b1 : (s0_0.toList != ([] : List UInt8)) = false := bne_eq_false_iff_eq.mpr c2
    clear c2
    simp only [Option.some.injEq, Prod.mk.injEq] at H
    obtain ⟨rfl, rfl, rfl⟩ := H
    obtain ⟨HGz3, hgz3⟩ := HI0.out
    have hcz3_0 := cellS80_0 HGz3
    have hcz3_1 := cellS80_1 HGz3
    have hfz3_0 := blk_frozen HGz3 0
    have hfz3_1 := blk_frozen HGz3 1
    clear HGz3 hgz3
    go_enter Tryz.func85, Tryz.ntmps85
    go_wp2
    go_ret
    exact ⟨by first | rfl | (simp [errW_none, errW_some] <;> rfl) | (simp [*, errW_none, errW_some] <;> rfl), by repeat (first | (with_reducible first | exact HI0.out | apply IsS80.alloc | apply IsS80.drewN | apply IsS80.drew | apply IsS80.set_0 | apply IsS80.set_1) | exact HI0.out), by repeat (first | (with_reducible first | exact HB.out | apply below_alloc | apply pw_below_drewN | apply below_drew1 | refine below_set ?_ (IsS80.ge HI0.out)) | exact HB.out), by repeat (first | (with_reducible first | exact HK.out | apply KeepBut.set_ | apply keep_drewN | apply keep_drew | apply keep_alloc) | exact HK.out)⟩
  · rw [if_neg c2] at H
    have c2b0 : (s0_0.toList == ([] : List UInt8)) = false := beq_eq_false_iff_ne.mpr c2
    have c2b1 : (s0_0.toList != ([] : List UInt8)) = true := bne_iff_ne.mpr c2
    by_cases c4 : 0 < (s0_0.size : Int)
    · rw [if_pos c4] at H
      have c4b0 : decide (0 < (s0_0.size : Int)) = true := decide_eq_true c4
      have c4b1 : decide (0 < s0_0.size) = true := decide_eq_true (by omega)
      clear c4
      simp only [Option.some.injEq, Prod.mk.injEq] at H
      obtain ⟨rfl, rfl, rfl⟩ := H
      obtain ⟨HGz6, hgz6⟩ := HI0.out
      have hcz6_0 := cellS80_0 HGz6
      have hcz6_1 := cellS80_1 HGz6
      have hfz6_0 := blk_frozen HGz6 0
      have hfz6_1 := blk_frozen HGz6 1
      clear HGz6 hgz6
      have p5 : 0 ≤ (0 : Int) := (by omega)
      have q5 : 0 < s0_0.size := (by have : (0 : Int) < (s0_0.size : Int) := of_decide_eq_true (by first | (with_reducible assumption) | assumption); omega)
      have hx5 : ∀ h : 0 < s0_0.size, ((s0_0[0]'h).toNat : Int) = bt s0_0 0 := bt_at s0_0 0
      clear p5
      have qi5 : (0 < (s0_0.size : Int)) = True := eq_true (of_decide_eq_true (by first | (with_reducible assumption) | assumption))
      replace q5 := eq_true q5
      go_enter Tryz.func85, Tryz.ntmps85
      go_wp2
      go_ret
      exact ⟨by first | rfl | (simp [errW_none, errW_some] <;> rfl) | (simp [*, errW_none, errW_some] <;> rfl), by repeat (first | (with_reducible first | exact HI0.out | apply IsS80.alloc | apply IsS80.drewN | apply IsS80.drew | apply IsS80.set_0 | apply IsS80.set_1) | exact HI0.out), by repeat (first | (with_reducible first | exact HB.out | apply below_alloc | apply pw_below_drewN | apply below_drew1 | refine below_set ?_ (IsS80.ge HI0.out)) | exact HB.out), by repeat (first | (with_reducible first | exact HK.out | apply KeepBut.set_ | apply keep_drewN | apply keep_drew | apply keep_alloc) | exact HK.out)⟩
    · rw [if_neg c4] at H
      exact absurd H (by simp)

end Go.Proofs.YtkihaebaccdjdaaGreatDoor.PX
