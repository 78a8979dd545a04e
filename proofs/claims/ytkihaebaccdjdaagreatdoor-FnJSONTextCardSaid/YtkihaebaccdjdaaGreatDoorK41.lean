import Derived.Test.YtkihaebaccdjdaaGreatDoorK7
import Derived.Test.YtkihaebaccdjdaaGreatDoorK40
namespace Go.Proofs.YtkihaebaccdjdaaGreatDoor.PX
open Go.RowKit Go.Proofs.YtkihaebaccdjdaaGreatDoorW.PrintWords Go.Proofs.YtkihaebaccdjdaaGreatDoorW.PrintLast Go.Proofs.YtkihaebaccdjdaaGreatDoorW.PrintMore
attribute [local go_sem] max2_int min2_int max_two min_two max_three min_three max_four min_four   -- for this text's walks alone
set_option linter.unusedVariables false
set_option linter.unusedSimpArgs false

/-! ### spec_Begins: function 58 -/
def spec_Begins.f (a0 : ByteArray) (a1 : ByteArray) : Option (Bool) := if (a0.size : Int) ≥ (a1.size : Int) then (if 0 ≤ (a1.size : Int) then (if (a1.size : Int) ≤ (a0.size : Int) then (some ((a0.extract 0 ((a1.size : Int) : Int).toNat).toList == a1.toList)) else (none)) else (none)) else (some false)
set_option maxHeartbeats 8000000 in
set_option maxRecDepth 100000 in
theorem spec_Begins.calls (a0 : ByteArray) (a1 : ByteArray) (r : Bool) (w : World) (h : spec_Begins.f a0 a1 = some r) :
    Calls Tryz.prog 58 #[.string a0, .string a1] w fun e w' => e = .returned (.bool r) ∧ Drawn0 w w' := by
  have H : (if (a0.size : Int) ≥ (a1.size : Int) then (if 0 ≤ (a1.size : Int) then (if (a1.size : Int) ≤ (a0.size : Int) then (some ((a0.extract 0 ((a1.size : Int) : Int).toNat).toList == a1.toList)) else (none)) else (none)) else (some false)) = some r := h
  clear h
  by_cases c3 : (a0.size : Int) ≥ (a1.size : Int)
  · rw [if_pos c3] at H
    have c3b0 : decide ((a1.size : Int) ≤ (a0.size : Int)) = true := decide_eq_true c3
    have c3b1 : decide (a1.size ≤ a0.size) = true := decide_eq_true (Int.ofNat_le.mp c3)
    clear c3
    by_cases c4 : 0 ≤ (a1.size : Int)
    · rw [if_pos c4] at H
      have c4b0 := eq_true c4
      have c4b1 : decide (0 ≤ (a1.size : Int)) = true := decide_eq_true c4
      clear c4
      by_cases c5 : (a1.size : Int) ≤ (a0.size : Int)
      · rw [if_pos c5] at H
        have c5b0 := eq_true c5
        have c5b1 : decide ((a1.size : Int) ≤ (a0.size : Int)) = true := decide_eq_true c5
        clear c5
        obtain rfl := Option.some.inj H
        go_enter Tryz.func58, Tryz.ntmps58
        go_wp2
        go_ret
        exact ⟨by first | rfl | (simp; done) | (simp [*]; done), by repeat (first | exact Drawn0.refl _ | apply Drawn0.step)⟩
      · rw [if_neg c5] at H
        exact absurd H (by simp)
    · rw [if_neg c4] at H
      exact absurd H (by simp)
  · rw [if_neg c3] at H
    have c3b0 : decide ((a1.size : Int) ≤ (a0.size : Int)) = false := decide_eq_false c3
    have c3b1 : decide (a1.size ≤ a0.size) = false := decide_eq_false (fun h => c3 (Int.ofNat_le.mpr h))
    clear c3
    obtain rfl := Option.some.inj H
    go_enter Tryz.func58, Tryz.ntmps58
    go_wp2
    go_ret
    exact ⟨by first | rfl | (simp; done) | (simp [*]; done), by repeat (first | exact Drawn0.refl _ | apply Drawn0.step)⟩

end Go.Proofs.YtkihaebaccdjdaaGreatDoor.PX
set_option linter.unusedVariables false
set_option linter.unusedSimpArgs false
namespace Go.Proofs.YtkihaebaccdjdaaGreatDoor.PX
open Go.RowKit Go.Proofs.YtkihaebaccdjdaaGreatDoorW.PrintWords Go.Proofs.YtkihaebaccdjdaaGreatDoorW.PrintLast Go.Proofs.YtkihaebaccdjdaaGreatDoorW.PrintMore
/-! ### spec.reader.take, function 149 -/
def spec_reader_take.f (s0_0 : ByteArray) (s0_1 : Bool) (a1 : ByteArray) : Option (Bool × ByteArray × Bool) :=
  if a1.size ≤ s0_0.size ∧ (s0_0.extract 0 a1.size).toList = a1.toList then some (true, s0_0.extract a1.size s0_0.size, s0_1) else some (false, s0_0, s0_1)
set_option maxHeartbeats 2000000 in
set_option maxRecDepth 100000 in
theorem spec_reader_take.calls (g : Nat) (s0_0 : ByteArray) (s0_1 : Bool) (a1 : ByteArray) (r1 : Bool) (r2 : ByteArray) (r3 : Bool) (w0 w : World) (hI : IsS80 w0 w g s0_0 s0_1) (hB : Below w0.heap.size w0 w) (h : spec_reader_take.f s0_0 s0_1 a1 = some (r1, r2, r3)) :
    Calls Tryz.prog 149 #[.pointer (some ⟨g, 0, none⟩), .string a1] w fun e w' => e = .returned (.bool r1) ∧ IsS80 w0 w' g r2 r3 ∧ Below w0.heap.size w0 w' ∧ KeepBut w w' g none := by
  have c0 := cellS80_0 hI.1; have c1 := cellS80_1 hI.1
  have hI0 := Aside0.mk hI; have hB0 := Aside0.mk hB
  clear hI hB
  by_cases hc : a1.size ≤ s0_0.size ∧ (s0_0.extract 0 a1.size).toList = a1.toList
  · have hb : spec_Begins.f s0_0 a1 = some true := by
      unfold spec_Begins.f
      rw [if_pos (by omega), if_pos (by omega), if_pos (by omega), Int.toNat_natCast, hc.2]
      simp
    have hsl : ∀ w : World, (Instr.slice 9 (.string s0_0) (some (.int .i64 (a1.size : Int))) none none).run Tryz.prog w = .ok (.string (s0_0.extract a1.size s0_0.size)) w := fun w => by
      rw [run_slice_string_from_if w 9 s0_0 .i64 (a1.size : Int) Tryz.underlying9, if_pos (by omega), Int.toNat_natCast]
    unfold spec_reader_take.f at h
    rw [if_pos hc] at h
    simp only [Option.some.injEq, Prod.mk.injEq] at h
    obtain ⟨rfl, rfl, rfl⟩ := h
    have hcall := Aside0.mk (spec_Begins.calls s0_0 a1 true w hb)
    clear hb hc
    go_enter Tryz.func149, Tryz.ntmps149
    go_wp2_with fail
    refine hcall.out.mono ?_
    rintro e w1 ⟨rfl, hd⟩
    have hI1 := hI0.out.below hd.below
    have hK1 := Aside0.mk (KeepBut.of_below hd.below g none)
    have hB1 := Aside0.mk (below_then hB0.out hB0.out.size hd.below)
    have d0 := cellS80_0 hI1.1; have d1 := cellS80_1 hI1.1
    have f0 := blk_frozen hI1.1 0; have f1 := blk_frozen hI1.1 1
    replace hI1 := Aside0.mk hI1
    clear hd hcall c0 c1
    go_wp2
    go_ret
    exact ⟨rfl, hI1.out.set_0 _, below_set hB1.out (IsS80.ge hI1.out), hK1.out.set_ 0 _⟩
  · have hb : spec_Begins.f s0_0 a1 = some false := by
      unfold spec_Begins.f
      by_cases hle : a1.size ≤ s0_0.size
      · have hne : ((s0_0.extract 0 a1.size).toList == a1.toList) = false := beq_eq_false_iff_ne.2 (fun e => hc ⟨hle, e⟩)
        rw [if_pos (by omega), if_pos (by omega), if_pos (by omega), Int.toNat_natCast, hne]
      · rw [if_neg (by omega)]
    unfold spec_reader_take.f at h
    rw [if_neg hc] at h
    simp only [Option.some.injEq, Prod.mk.injEq] at h
    obtain ⟨rfl, rfl, rfl⟩ := h
    have hcall := Aside0.mk (spec_Begins.calls s0_0 a1 false w hb)
    clear hb hc
    go_enter Tryz.func149, Tryz.ntmps149
    go_wp2_with fail
    refine hcall.out.mono ?_
    rintro e w1 ⟨rfl, hd⟩
    have hI1 := Aside0.mk (hI0.out.below hd.below)
    have hK1 := Aside0.mk (KeepBut.of_below hd.below g none)
    have hB1 := Aside0.mk (below_then hB0.out hB0.out.size hd.below)
    clear hd hcall c0 c1
    go_wp2
    go_ret
    exact ⟨rfl, hI1.out, hB1.out, hK1.out⟩
end Go.Proofs.YtkihaebaccdjdaaGreatDoor.PX
